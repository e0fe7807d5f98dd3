/- Words for memory: slices of steps; and, plain, what a script makes of a rectangle. Conditions: none. -/
import Derived.Test.YtojplcchoffapaaStepped
import Derived.Test.YtojplcchoffapaaRects
namespace Go.Proofs.Ytojplcchoffapaa
open Go.RowKit

/-- one step of a script -/
structure S where
  op : Int
  px : Int
  py : Int
  n : Int
  r : R
def S.on (s : S) (r : R) : R := stepR s.op s.px s.py s.n s.r r
/-- where a script leads -/
def runS (start : R) (l : List S) : R := l.foldl (fun r s => s.on r) start
/-- the first k rectangles of a script -/
def runsS (start : R) (l : List S) (k : Nat) : List R := (List.range k).map fun i => runS start (l.take (i + 1))
theorem runsS_length (start : R) (l : List S) (k : Nat) : (runsS start l k).length = k := by simp [runsS]
theorem runsS_succ (start : R) (l : List S) (k : Nat) : runsS start l (k + 1) = runsS start l k ++ [runS start (l.take (k + 1))] := by
  simp [runsS, List.range_succ]
theorem runsS_get (start : R) (l : List S) (k i : Nat) (h : i < k) : (runsS start l k)[i]'(by rw [runsS_length]; exact h) = runS start (l.take (i + 1)) := by
  simp [runsS]
theorem runS_step (start : R) (l : List S) (k : Nat) (h : k < l.length) : runS start (l.take (k + 1)) = l[k].on (runS start (l.take k)) := by
  unfold runS
  rw [List.take_succ_eq_append_getElem h, List.foldl_append]
  rfl

def sflat1 (s : S) : List Value := [.int .i64 s.op, .int .i64 s.px, .int .i64 s.py, .int .i64 s.n, .int .i64 s.r.x0, .int .i64 s.r.y0, .int .i64 s.r.x1, .int .i64 s.r.y1]
def sflat (l : List S) : List Value := l.flatMap sflat1
theorem sflat_length (l : List S) : (sflat l).length = l.length * 8 := by
  induction l with
  | nil => rfl
  | cons r l ih => simp only [sflat, List.flatMap_cons, List.length_append, List.length_cons] at ih ⊢; rw [ih]; simp [sflat1]; omega
theorem sflat_snoc (l : List S) (r : S) : sflat (l ++ [r]) = sflat l ++ sflat1 r := by simp [sflat]
theorem sflat_one (l : List S) : ∀ u ∈ sflat l, u.oneCell' = true := by
  intro u hu
  simp only [sflat, List.mem_flatMap, sflat1] at hu
  obtain ⟨r, _, hu⟩ := hu
  simp at hu
  rcases hu with rfl | rfl | rfl | rfl | rfl | rfl | rfl | rfl <;> rfl
theorem sflat_get (l : List S) (i k : Nat) (hi : i < l.length) (hk : k < 8) : (sflat l)[i * 8 + k]? = (sflat1 l[i])[k]? := by
  induction l generalizing i with
  | nil => simp at hi
  | cons r l ih =>
    cases i with
    | zero =>
      simp only [sflat, List.flatMap_cons, Nat.zero_mul, Nat.zero_add]
      rw [List.getElem?_append_left (by simp [sflat1]; omega)]
      rfl
    | succ i =>
      have h := ih i (by simpa using hi)
      simp only [sflat, List.flatMap_cons] at h ⊢
      rw [List.getElem?_append_right (by simp [sflat1]; omega)]
      have e : (i + 1) * 8 + k - (sflat1 r).length = i * 8 + k := by simp [sflat1]; omega
      rw [e, h]
      simp

/-- the slice of steps at A reads as l -/
def Steps (w : World) (A : Option Addr) (l : List S) : Prop :=
  0 < l.length → ∃ g o, A = some ⟨g, o, none⟩ ∧ g < w.heap.size ∧ ∀ j u, (sflat l)[j]? = some u → w.cell? ⟨g, o + j, none⟩ = some u
theorem Steps.by {w w' : World} {A : Option Addr} {l : List S} (h : Steps w A l) (hb : Below w.heap.size w w') : Steps w' A l := by
  intro h0
  obtain ⟨g, o, rfl, hlt, hc⟩ := h h0
  exact ⟨g, o, rfl, by have := hb.size; omega, fun j u hu => (hb.cell (p := ⟨g, o + j, none⟩) hlt).trans (hc j u hu)⟩
theorem Steps.at_ {w : World} {A : Option Addr} {l : List S} (h : Steps w A l) {i : Nat} (hi : i < l.length) : ∃ g o, A = some ⟨g, o, none⟩ ∧ g < w.heap.size ∧
    w.cell? ⟨g, o + i * 8, none⟩ = some (.int .i64 l[i].op) ∧ w.cell? ⟨g, o + i * 8 + 1, none⟩ = some (.int .i64 l[i].px) ∧ w.cell? ⟨g, o + i * 8 + 2, none⟩ = some (.int .i64 l[i].py) ∧ w.cell? ⟨g, o + i * 8 + 3, none⟩ = some (.int .i64 l[i].n) ∧
    w.cell? ⟨g, o + i * 8 + 4, none⟩ = some (.int .i64 l[i].r.x0) ∧ w.cell? ⟨g, o + i * 8 + 5, none⟩ = some (.int .i64 l[i].r.y0) ∧ w.cell? ⟨g, o + i * 8 + 6, none⟩ = some (.int .i64 l[i].r.x1) ∧ w.cell? ⟨g, o + i * 8 + 7, none⟩ = some (.int .i64 l[i].r.y1) := by
  obtain ⟨g, o, rfl, hlt, hc⟩ := h (by omega)
  exact ⟨g, o, rfl, hlt, hc (i * 8) _ (sflat_get l i 0 hi (by omega)), hc (i * 8 + 1) _ (sflat_get l i 1 hi (by omega)), hc (i * 8 + 2) _ (sflat_get l i 2 hi (by omega)), hc (i * 8 + 3) _ (sflat_get l i 3 hi (by omega)),
    hc (i * 8 + 4) _ (sflat_get l i 4 hi (by omega)), hc (i * 8 + 5) _ (sflat_get l i 5 hi (by omega)), hc (i * 8 + 6) _ (sflat_get l i 6 hi (by omega)), hc (i * 8 + 7) _ (sflat_get l i 7 hi (by omega))⟩
end Go.Proofs.Ytojplcchoffapaa
