/- Words for memory: slices of points; append of one point. Conditions: fewer than 1099511627776 points. -/
import Derived.Test.YtojplcchoffapaaOwnS
import Derived.Maps.AppendAt
namespace Go.Proofs.Ytojplcchoffapaa
open Go.RowKit

/-- a point -/
structure P where
  x : Int
  y : Int
def pflat1 (p : P) : List Value := [.int .i64 p.x, .int .i64 p.y]
def pflat (l : List P) : List Value := l.flatMap pflat1
theorem pflat_length (l : List P) : (pflat l).length = l.length * 2 := by
  induction l with
  | nil => rfl
  | cons r l ih => simp only [pflat, List.flatMap_cons, List.length_append, List.length_cons] at ih ⊢; rw [ih]; simp [pflat1]; omega
theorem pflat_snoc (l : List P) (r : P) : pflat (l ++ [r]) = pflat l ++ pflat1 r := by simp [pflat]
theorem pflat_one (l : List P) : ∀ u ∈ pflat l, u.oneCell' = true := by
  intro u hu
  simp only [pflat, List.mem_flatMap, pflat1] at hu
  obtain ⟨r, _, hu⟩ := hu
  simp at hu
  rcases hu with rfl | rfl <;> rfl
theorem pflat_get (l : List P) (i k : Nat) (hi : i < l.length) (hk : k < 2) : (pflat l)[i * 2 + k]? = (pflat1 l[i])[k]? := by
  induction l generalizing i with
  | nil => simp at hi
  | cons r l ih =>
    cases i with
    | zero =>
      simp only [pflat, List.flatMap_cons, Nat.zero_mul, Nat.zero_add]
      rw [List.getElem?_append_left (by simp [pflat1]; omega)]
      rfl
    | succ i =>
      have h := ih i (by simpa using hi)
      simp only [pflat, List.flatMap_cons] at h ⊢
      rw [List.getElem?_append_right (by simp [pflat1]; omega)]
      have e : (i + 1) * 2 + k - (pflat1 r).length = i * 2 + k := by simp [pflat1]; omega
      rw [e, h]
      simp
/-- the slice of points at A reads as l -/
def Pts (w : World) (A : Option Addr) (l : List P) : Prop :=
  0 < l.length → ∃ g o, A = some ⟨g, o, none⟩ ∧ g < w.heap.size ∧ ∀ j u, (pflat l)[j]? = some u → w.cell? ⟨g, o + j, none⟩ = some u
theorem Pts.by {w w' : World} {A : Option Addr} {l : List P} (h : Pts w A l) (hb : Below w.heap.size w w') : Pts w' A l := by
  intro h0
  obtain ⟨g, o, rfl, hlt, hc⟩ := h h0
  exact ⟨g, o, rfl, by have := hb.size; omega, fun j u hu => (hb.cell (p := ⟨g, o + j, none⟩) hlt).trans (hc j u hu)⟩
theorem Pts.at_ {w : World} {A : Option Addr} {l : List P} (h : Pts w A l) {i : Nat} (hi : i < l.length) : ∃ g o, A = some ⟨g, o, none⟩ ∧ g < w.heap.size ∧
    w.cell? ⟨g, o + i * 2, none⟩ = some (.int .i64 l[i].x) ∧ w.cell? ⟨g, o + i * 2 + 1, none⟩ = some (.int .i64 l[i].y) := by
  obtain ⟨g, o, rfl, hlt, hc⟩ := h (by omega)
  exact ⟨g, o, rfl, hlt, hc (i * 2) _ (pflat_get l i 0 hi (by omega)), hc (i * 2 + 1) _ (pflat_get l i 1 hi (by omega))⟩
theorem infoPoint : (Try.prog.info? 27).map (fun i => (i.zero, i.size, i.bytes)) = some (some (.agg #[.int .i64 0, .int .i64 0]), 2, 16) := by kernel_rfl
/-- the slice v is the call's own (its blocks begin at base) and holds the points l -/
def OwnP (w : World) (base : Nat) (v : Value) (l : List P) : Prop := w.ownsRow base 27 2 v l.length (pflat l)
section
variable {w w' : World} {base B : Nat} {v : Value} {l : List P} {A : Option Addr}
theorem OwnP.keep (h : OwnP w base v l) (hb : ∀ k, k < w.heap.size → w'.heap[k]? = w.heap[k]?) : OwnP w' base v l := by
  unfold OwnP at *
  refine ⟨h.1, ?_⟩
  rcases h.2 with h2 | ⟨g, cap, cur, hv, hg, hh, r⟩
  · exact .inl h2
  · have hlt : g < w.heap.size := by
      rcases Nat.lt_or_ge g w.heap.size with h | h
      · exact h
      · rw [Array.getElem?_eq_none h] at hh; cases hh
    exact .inr ⟨g, cap, cur, hv, hg, (hb g hlt).trans hh, r⟩
theorem OwnP.by (h : OwnP w base v l) (hb : Below w.heap.size w w') : OwnP w' base v l := h.keep hb.block
theorem OwnP.alloc (h : OwnP w base v l) (o : Obj) : OwnP (w.alloc o) base v l := h.by ((Below.refl _ _).alloc (Nat.le_refl _) _)
theorem OwnP.mono {base' : Nat} (h : OwnP w base v l) (hb : base' ≤ base) : OwnP w base' v l := World.ownsRow.mono h hb
theorem OwnP.form (h : OwnP w base v l) : ∃ A c, v = .slice A l.length c ∧ Pts w A l := by
  have h' := h
  unfold OwnP at h
  rcases h.2 with ⟨rfl, hn⟩ | ⟨g, cap, cur, rfl, hg, hh, r⟩
  · exact ⟨none, 0, by rw [hn], fun h0 => by omega⟩
  · refine ⟨_, _, rfl, fun h0 => ⟨g, 0, rfl, ?_, fun j u hu => ?_⟩⟩
    · rcases Nat.lt_or_ge g w.heap.size with h | h
      · exact h
      · rw [Array.getElem?_eq_none h] at hh; cases hh
    · have := World.ownsRow.cells (w := w) (base := base) (e := 27) (size := 2) h' (g := g) rfl j u hu
      rw [add_off] at this
      exact this
end
theorem ownP_nil (w : World) (base : Nat) : OwnP w base (.slice none 0 0) [] := ⟨rfl, .inl ⟨rfl, rfl⟩⟩
/-- append of one point that lies in a block of its own -/
theorem append_point {ops : Array Oper} {rest : List Oper} {o : Oper} {a : Act} {Q : Exit → Act → World → Prop} (hgd : o.guard = none) (s x : Operand)
    (ho : o.op = .call { callee := .builtin .append, args := #[s, x], argTypes := #[36, 36] }) (w : World) (base g : Nat) (v : Value) (l : List P) (r : P)
    (hs : a.eval s = v) (hown : OwnP w base v l) (hx : a.eval x = .slice (some ⟨g, 0, none⟩) 1 1) (hg : At w g 27 (pflat1 r)) (hlen : l.length < 1099511627776) (hbase : base ≤ w.heap.size)
    (h : ∀ v' w', OwnP w' base v' (l ++ [r]) → w.grownBy w' v.ownBlock → (v'.ownBlock = v.ownBlock ∨ v'.ownBlock = some w.heap.size) → Below base w w' → wpList Try.prog ops Q rest (a.put o.dst v') w') :
    wpList Try.prog ops Q (o :: rest) a w := by
  obtain ⟨i0, hi0, hz0, hz1, hz2⟩ := info_parts infoPoint
  refine wpList_append_own_at _ hgd s x _ ho base 27 i0 _ 2 16 Try.underlying36 hi0 hz0 hz1 hz2 rfl (by omega) v l.length (pflat l) hs hown ⟨g, 0, none⟩ 1 1 (pflat1 r) hx rfl ?_ ?_ (by simp only [maxLen]; omega) (by omega) hbase ?_
  · intro j u hu
    rw [add_off, Nat.zero_add]
    have := hg.cell j
    rw [hu] at this
    exact this
  · intro u hu
    exact pflat_one [r] u (by simpa [pflat] using hu)
  · intro v' w' hown' hgr _ hbl
    refine h v' w' ?_ hgr hbl ((Below.refl _ _).grown hgr hbase (fun k hk => (World.ownsRow.lt hown k hk).1))
    unfold OwnP
    rw [pflat_snoc, List.length_append]
    exact hown'
end Go.Proofs.Ytojplcchoffapaa
