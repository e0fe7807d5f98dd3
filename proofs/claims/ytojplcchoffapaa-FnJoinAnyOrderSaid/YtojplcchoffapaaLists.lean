/- Words for memory: slices of rectangles. Conditions: none. -/
import Derived.Test.YtojplcchoffapaaMem
import Derived.Below
import Derived.Laws.OwnMore
import Derived.Deep.AppendLies
import Derived.Deep.Onto
import Derived.OwnWalk
namespace Go.Proofs.Ytojplcchoffapaa
open Go.RowKit

def flat1 (r : R) : List Value := [.int .i64 r.x0, .int .i64 r.y0, .int .i64 r.x1, .int .i64 r.y1]
def flat (l : List R) : List Value := l.flatMap flat1
theorem flat_length (l : List R) : (flat l).length = l.length * 4 := by
  induction l with
  | nil => rfl
  | cons r l ih => simp only [flat, List.flatMap_cons, List.length_append, List.length_cons] at ih ⊢; rw [ih]; simp [flat1]; omega
theorem flat_snoc (l : List R) (r : R) : flat (l ++ [r]) = flat l ++ flat1 r := by simp [flat]
theorem flat_append (l m : List R) : flat (l ++ m) = flat l ++ flat m := by simp [flat]
theorem flat_one (l : List R) : ∀ u ∈ flat l, u.oneCell' = true := by
  intro u hu
  simp only [flat, List.mem_flatMap, flat1] at hu
  obtain ⟨r, _, hu⟩ := hu
  simp at hu
  rcases hu with rfl | rfl | rfl | rfl <;> rfl
theorem flat_get (l : List R) (i k : Nat) (hi : i < l.length) (hk : k < 4) : (flat l)[4 * i + k]? = (flat1 l[i])[k]? := by
  induction l generalizing i with
  | nil => simp at hi
  | cons r l ih =>
    cases i with
    | zero =>
      simp only [flat, List.flatMap_cons, Nat.mul_zero, Nat.zero_add]
      rw [List.getElem?_append_left (by simp [flat1]; omega)]
      rfl
    | succ i =>
      have h := ih i (by simpa using hi)
      simp only [flat, List.flatMap_cons] at h ⊢
      rw [List.getElem?_append_right (by simp [flat1]; omega)]
      have e : 4 * (i + 1) + k - (flat1 r).length = 4 * i + k := by simp [flat1]; omega
      rw [e, h]
      simp

/-- the slice v is the call's own (its blocks begin at base) and holds the rectangles l -/
def Own (w : World) (base : Nat) (v : Value) (l : List R) : Prop := w.ownsRow base 24 4 v l.length (flat l)
/-- it returns a new slice of the rectangles l -/
def RetL (l : List R) (w : World) (e : Ending) (w' : World) : Prop := ∃ v, e = .returned v ∧ Own w' w.heap.size v l ∧ Below w.heap.size w w'

/-- the slice of rectangles at A reads as l -/
def Rects (w : World) (A : Option Addr) (l : List R) : Prop :=
  0 < l.length → ∃ g o, A = some ⟨g, o, none⟩ ∧ g < w.heap.size ∧ ∀ j u, (flat l)[j]? = some u → w.cell? ⟨g, o + j, none⟩ = some u

section
variable {w w' : World} {base B : Nat} {v : Value} {l : List R} {A : Option Addr}
theorem Own.keep (h : Own w base v l) (hb : ∀ k, k < w.heap.size → w'.heap[k]? = w.heap[k]?) : Own w' base v l := by
  unfold Own at *
  refine ⟨h.1, ?_⟩
  rcases h.2 with h2 | ⟨g, cap, cur, hv, hg, hh, r⟩
  · exact .inl h2
  · have hlt : g < w.heap.size := by
      rcases Nat.lt_or_ge g w.heap.size with h | h
      · exact h
      · rw [Array.getElem?_eq_none h] at hh; cases hh
    exact .inr ⟨g, cap, cur, hv, hg, (hb g hlt).trans hh, r⟩
theorem Own.by (h : Own w base v l) (hb : Below w.heap.size w w') : Own w' base v l := h.keep hb.block
theorem Own.alloc (h : Own w base v l) (o : Obj) : Own (w.alloc o) base v l := h.by ((Below.refl _ _).alloc (Nat.le_refl _) _)
theorem Own.mono {base' : Nat} (h : Own w base v l) (hb : base' ≤ base) : Own w base' v l := World.ownsRow.mono h hb
theorem Own.form (h : Own w base v l) : ∃ A c, v = .slice A l.length c ∧ Rects w A l := by
  have h' := h
  unfold Own at h
  rcases h.2 with ⟨rfl, hn⟩ | ⟨g, cap, cur, rfl, hg, hh, r⟩
  · exact ⟨none, 0, by rw [hn], fun h0 => by omega⟩
  · refine ⟨_, _, rfl, fun h0 => ⟨g, 0, rfl, ?_, fun j u hu => ?_⟩⟩
    · rcases Nat.lt_or_ge g w.heap.size with h | h
      · exact h
      · rw [Array.getElem?_eq_none h] at hh; cases hh
    · have := World.ownsRow.cells (w := w) (base := base) (e := 24) (size := 4) h' (g := g) rfl j u hu
      rw [add_off] at this
      exact this
theorem Rects.by (h : Rects w A l) (hb : Below w.heap.size w w') : Rects w' A l := by
  intro h0
  obtain ⟨g, o, rfl, hlt, hc⟩ := h h0
  exact ⟨g, o, rfl, by have := hb.size; omega, fun j u hu => (hb.cell (p := ⟨g, o + j, none⟩) hlt).trans (hc j u hu)⟩
theorem Rects.alloc (h : Rects w A l) (o : Obj) : Rects (w.alloc o) A l := h.by ((Below.refl _ _).alloc (Nat.le_refl _) _)
/-- the cells of one of them -/
theorem Rects.at_ (h : Rects w A l) {i : Nat} (hi : i < l.length) : ∃ g o, A = some ⟨g, o, none⟩ ∧ g < w.heap.size ∧
    w.cell? ⟨g, o + i * 4, none⟩ = some (.int .i64 l[i].x0) ∧ w.cell? ⟨g, o + i * 4 + 1, none⟩ = some (.int .i64 l[i].y0) ∧ w.cell? ⟨g, o + i * 4 + 2, none⟩ = some (.int .i64 l[i].x1) ∧ w.cell? ⟨g, o + i * 4 + 3, none⟩ = some (.int .i64 l[i].y1) := by
  obtain ⟨g, o, rfl, hlt, hc⟩ := h (by omega)
  refine ⟨g, o, rfl, hlt, ?_, ?_, ?_, ?_⟩
  · exact hc (i * 4) _ (by rw [Nat.mul_comm]; exact flat_get l i 0 hi (by omega))
  · exact hc (i * 4 + 1) _ (by rw [Nat.mul_comm]; exact flat_get l i 1 hi (by omega))
  · exact hc (i * 4 + 2) _ (by rw [Nat.mul_comm]; exact flat_get l i 2 hi (by omega))
  · exact hc (i * 4 + 3) _ (by rw [Nat.mul_comm]; exact flat_get l i 3 hi (by omega))
end

theorem Rects.cells {w : World} {g o : Nat} {l : List R} (h : Rects w (some ⟨g, o, none⟩) l) {i : Nat} (hi : i < l.length) {p q s t : Int} (he : l[i] = ⟨p, q, s, t⟩) :
    w.cell? ⟨g, o + i * 4, none⟩ = some (.int .i64 p) ∧ w.cell? ⟨g, o + i * 4 + 1, none⟩ = some (.int .i64 q) ∧ w.cell? ⟨g, o + i * 4 + 2, none⟩ = some (.int .i64 s) ∧ w.cell? ⟨g, o + i * 4 + 3, none⟩ = some (.int .i64 t) := by
  obtain ⟨g', o', e, _, c0, c1, c2, c3⟩ := h.at_ hi
  simp only [Option.some.injEq, Addr.mk.injEq, and_true] at e
  obtain ⟨rfl, rfl⟩ := e
  rw [he] at c0 c1 c2 c3
  exact ⟨c0, c1, c2, c3⟩
theorem Rects.addr {w : World} {A : Option Addr} {l : List R} (h : Rects w A l) (h0 : 0 < l.length) : ∃ g o, A = some ⟨g, o, none⟩ ∧ g < w.heap.size := by
  obtain ⟨g, o, e, hg, _⟩ := h h0
  exact ⟨g, o, e, hg⟩
/-- a slice of slices of integers that came in -/
def RowsAt (w : World) (A : Option Addr) (n : Nat) (zss : List (List Int)) : Prop :=
  zss.length = n ∧ (0 < n → ∃ b o, A = some ⟨b, o, none⟩ ∧ b < w.heap.size ∧ ∀ i, i < n → ∃ Ai ni ci, w.cell? ⟨b, o + i, none⟩ = some (.slice Ai ni ci) ∧ Ints w Ai ni (zss.getD i []))
theorem RowsAt.by {w w' : World} {A : Option Addr} {n : Nat} {zss : List (List Int)} (h : RowsAt w A n zss) (hb : Below w.heap.size w w') : RowsAt w' A n zss := by
  refine ⟨h.1, fun h0 => ?_⟩
  obtain ⟨b, o, e, hlt, hc⟩ := h.2 h0
  refine ⟨b, o, e, by have := hb.size; omega, fun i hi => ?_⟩
  obtain ⟨Ai, ni, ci, h1, h2⟩ := hc i hi
  exact ⟨Ai, ni, ci, (hb.cell (p := ⟨b, o + i, none⟩) hlt).trans h1, h2.below (Nat.le_refl _) hb⟩
end Go.Proofs.Ytojplcchoffapaa
