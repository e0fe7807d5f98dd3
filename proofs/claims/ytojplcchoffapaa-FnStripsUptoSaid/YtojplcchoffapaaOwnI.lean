/- Words for memory: slices of integers of the call's own; append of a slice of integers. Conditions: together at most 17592186044416 integers. -/
import Derived.Test.YtojplcchoffapaaOwnS
import Derived.Test.YtojplcchoffapaaAppend
import Derived.Maps.AppendAt
namespace Go.Proofs.Ytojplcchoffapaa
open Go.RowKit

def iflat (l : List Int) : List Value := l.map (Value.int .i64)
theorem iflat_length (l : List Int) : (iflat l).length = l.length := by simp [iflat]
theorem iflat_append (l m : List Int) : iflat (l ++ m) = iflat l ++ iflat m := by simp [iflat]
theorem iflat_one (l : List Int) : ∀ u ∈ iflat l, u.oneCell' = true := by
  intro u hu
  simp only [iflat, List.mem_map] at hu
  obtain ⟨r, _, rfl⟩ := hu
  rfl
/-- the slice of integers at A reads as l -/
def Nums (w : World) (A : Option Addr) (l : List Int) : Prop :=
  0 < l.length → ∃ g o, A = some ⟨g, o, none⟩ ∧ g < w.heap.size ∧ ∀ j u, (iflat l)[j]? = some u → w.cell? ⟨g, o + j, none⟩ = some u
theorem Nums.by {w w' : World} {A : Option Addr} {l : List Int} (h : Nums w A l) (hb : Below w.heap.size w w') : Nums w' A l := by
  intro h0
  obtain ⟨g, o, rfl, hlt, hc⟩ := h h0
  exact ⟨g, o, rfl, by have := hb.size; omega, fun j u hu => (hb.cell (p := ⟨g, o + j, none⟩) hlt).trans (hc j u hu)⟩
theorem Nums.alloc {w : World} {A : Option Addr} {l : List Int} (h : Nums w A l) (o : Obj) : Nums (w.alloc o) A l := h.by ((Below.refl _ _).alloc (Nat.le_refl _) _)
theorem Nums.at_ {w : World} {A : Option Addr} {l : List Int} (h : Nums w A l) {i : Nat} (hi : i < l.length) : ∃ g o, A = some ⟨g, o, none⟩ ∧ g < w.heap.size ∧ w.cell? ⟨g, o + i, none⟩ = some (.int .i64 l[i]) := by
  obtain ⟨g, o, rfl, hlt, hc⟩ := h (by omega)
  exact ⟨g, o, rfl, hlt, hc i _ (by simp [iflat, hi])⟩
theorem Nums.one {w : World} {g o : Nat} {l : List Int} (h : Nums w (some ⟨g, o, none⟩) l) {i : Nat} (hi : i < l.length) {x : Int} (hx : l[i] = x) : w.cell? ⟨g, o + i, none⟩ = some (.int .i64 x) := by
  obtain ⟨g', o', e, _, hc⟩ := h.at_ hi
  simp only [Option.some.injEq, Addr.mk.injEq, and_true] at e
  obtain ⟨rfl, rfl⟩ := e
  rw [← hx]
  exact hc
theorem At.nums {w : World} {g : Nat} {l : List Int} (h : At w g 3 (iflat l)) : Nums w (some ⟨g, 0, none⟩) l := by
  intro _
  exact ⟨g, 0, rfl, h.lt, fun j u hu => by rw [Nat.zero_add, h.cell j]; exact hu⟩
theorem Nums.take {w : World} {A : Option Addr} {l : List Int} (h : Nums w A l) (k : Nat) : Nums w A (l.take k) := by
  intro h0
  obtain ⟨g, o, e, hg, hc⟩ := h (by rw [List.length_take] at h0; omega)
  refine ⟨g, o, e, hg, fun j u hu => hc j u ?_⟩
  rw [iflat, List.map_take, List.getElem?_take] at hu
  split at hu
  · exact hu
  · cases hu
/-- the address behind k integers, as slicing makes it -/
def behindI (A : Option Addr) (c k : Nat) : Option Addr := if c = k then A else A.map (·.add k)
theorem behindI_none {A : Option Addr} {c k : Nat} (h : A = none → c = 0) (he : behindI A c k = none) : c - k = 0 := by
  unfold behindI at he
  split at he
  · omega
  · cases A with
    | none => have := h rfl; omega
    | some a => cases he
theorem behindI_some {g o c k : Nat} (h : c ≠ k) : behindI (some ⟨g, o, none⟩) c k = some ⟨g, o + k, none⟩ := by
  unfold behindI
  rw [if_neg h]
  simp only [Option.map_some, add_off]
theorem Nums.drop {w : World} {A : Option Addr} {l : List Int} (h : Nums w A l) (k c : Nat) (hc : l.length ≤ c) : Nums w (behindI A c k) (l.drop k) := by
  intro h0
  rw [List.length_drop] at h0
  obtain ⟨g, o, rfl, hg, hcell⟩ := h (by omega)
  refine ⟨g, o + k, ?_, hg, fun j u hu => ?_⟩
  · unfold behindI
    rw [if_neg (by omega)]
    simp only [Option.map_some, add_off]
  · rw [Nat.add_assoc]
    refine hcell (k + j) u ?_
    rw [iflat, List.map_drop, List.getElem?_drop] at hu
    exact hu
theorem infoInt : (Try.prog.info? 3).map (fun i => (i.zero, i.size, i.bytes)) = some (some (.int .i64 0), 1, 8) := by kernel_rfl
/-- the slice v is the call's own (its blocks begin at base) and holds the integers l -/
def OwnI (w : World) (base : Nat) (v : Value) (l : List Int) : Prop := w.ownsRow base 3 1 v l.length (iflat l)
section
variable {w w' : World} {base B : Nat} {v : Value} {l : List Int} {A : Option Addr}
theorem OwnI.keep (h : OwnI w base v l) (hb : ∀ k, k < w.heap.size → w'.heap[k]? = w.heap[k]?) : OwnI w' base v l := by
  unfold OwnI at *
  refine ⟨h.1, ?_⟩
  rcases h.2 with h2 | ⟨g, cap, cur, hv, hg, hh, r⟩
  · exact .inl h2
  · have hlt : g < w.heap.size := by
      rcases Nat.lt_or_ge g w.heap.size with h | h
      · exact h
      · rw [Array.getElem?_eq_none h] at hh; cases hh
    exact .inr ⟨g, cap, cur, hv, hg, (hb g hlt).trans hh, r⟩
theorem OwnI.by (h : OwnI w base v l) (hb : Below w.heap.size w w') : OwnI w' base v l := h.keep hb.block
theorem OwnI.alloc (h : OwnI w base v l) (o : Obj) : OwnI (w.alloc o) base v l := h.by ((Below.refl _ _).alloc (Nat.le_refl _) _)
theorem OwnI.mono {base' : Nat} (h : OwnI w base v l) (hb : base' ≤ base) : OwnI w base' v l := World.ownsRow.mono h hb
theorem OwnI.form (h : OwnI w base v l) : ∃ A c, v = .slice A l.length c ∧ Nums w A l ∧ (A = none → c = 0) ∧ l.length ≤ c := by
  have h' := h
  unfold OwnI at h
  rcases h.2 with ⟨rfl, hn⟩ | ⟨g, cap, cur, rfl, hg, hh, r⟩
  · exact ⟨none, 0, by rw [hn], fun h0 => by omega, fun _ => rfl, by omega⟩
  · refine ⟨_, _, rfl, fun h0 => ⟨g, 0, rfl, ?_, fun j u hu => ?_⟩, fun e => (by cases e), r.1⟩
    · rcases Nat.lt_or_ge g w.heap.size with h | h
      · exact h
      · rw [Array.getElem?_eq_none h] at hh; cases hh
    · have := World.ownsRow.cells (w := w) (base := base) (e := 3) (size := 1) h' (g := g) rfl j u hu
      rw [add_off] at this
      exact this
end
theorem ownI_nil (w : World) : OwnI (w.alloc (.cells #[] 3)) w.heap.size (.slice (some ⟨w.heap.size, 0, none⟩) 0 0) [] :=
  World.ownsRow_lit w _ 0 (Nat.le_refl _) (Nat.zero_le _) rfl
theorem ownI_one (w : World) (x : Int) : OwnI (w.alloc (.cells #[.int .i64 x] 3)) w.heap.size (.slice (some ⟨w.heap.size, 0, none⟩) 1 1) [x] :=
  World.ownsRow_lit w _ 1 (Nat.le_refl _) (by simp [maxLen]) rfl
/-- append of a slice of integers to one of the call's own -/
theorem append_ints {ops : Array Oper} {rest : List Oper} {o : Oper} {a : Act} {Q : Exit → Act → World → Prop} (hgd : o.guard = none) (s x : Operand)
    (ho : o.op = .call { callee := .builtin .append, args := #[s, x], argTypes := #[22, 22] }) (w : World) (base : Nat) (v : Value) (l m : List Int) (A : Option Addr) (n c : Nat)
    (hs : a.eval s = v) (hown : OwnI w base v l) (hx : a.eval x = .slice A n c) (hn : m.length = n) (hR : Nums w A m) (hc : A = none → c = 0) (hlen : l.length + m.length ≤ 17592186044416) (hbase : base ≤ w.heap.size)
    (h : ∀ v' w', OwnI w' base v' (l ++ m) → Below base w w' → wpList Try.prog ops Q rest (a.put o.dst v') w') :
    wpList Try.prog ops Q (o :: rest) a w := by
  subst hn
  obtain ⟨i0, hi0, hz0, hz1, hz2⟩ := info_parts infoInt
  cases A with
  | none =>
    have hm : m = [] := by
      cases m with
      | nil => rfl
      | cons r m =>
        obtain ⟨g, o', e, _⟩ := hR (by simp)
        cases e
    subst hm
    obtain rfl := hc rfl
    refine wpList_append_own_none hgd s x _ ho base 3 i0 1 Try.underlying22 hi0 v l.length (iflat l) hs hown hx ?_
    exact h v w (by rw [List.append_nil]; exact hown) (Below.refl _ _)
  | some ad =>
    refine wpList_append_own _ hgd s x _ ho base 3 i0 _ 1 8 Try.underlying22 hi0 hz0 hz1 hz2 rfl (by omega) v l.length (iflat l) hs hown ad m.length c (iflat m) hx (by rw [iflat_length, Nat.mul_one]) ?_ (iflat_one m) (by simp only [maxLen]; omega) (by omega) hbase ?_
    · intro j u hu
      have hj : j < (iflat m).length := (List.getElem?_eq_some_iff.1 hu).1
      rw [iflat_length] at hj
      obtain ⟨g, o', e, _, hcell⟩ := hR (by omega)
      injection e with e
      subst e
      rw [add_off]
      exact hcell j u hu
    · intro v' w' hown' hg _
      refine h v' w' ?_ ?_
      · unfold OwnI
        rw [iflat_append, List.length_append]
        exact hown'
      · exact (Below.refl _ _).grown hg hbase (fun k hk => (World.ownsRow.lt hown k hk).1)
/-- the same, with what is kept, and where the new slice lies -/
theorem append_ints_gr {ops : Array Oper} {rest : List Oper} {o : Oper} {a : Act} {Q : Exit → Act → World → Prop} (hgd : o.guard = none) (s x : Operand)
    (ho : o.op = .call { callee := .builtin .append, args := #[s, x], argTypes := #[22, 22] }) (w : World) (base : Nat) (v : Value) (l m : List Int) (A : Option Addr) (n c : Nat)
    (hs : a.eval s = v) (hown : OwnI w base v l) (hx : a.eval x = .slice A n c) (hn : m.length = n) (hR : Nums w A m) (hc : ¬ A = none) (hlen : l.length + m.length ≤ 17592186044416) (hbase : base ≤ w.heap.size)
    (h : ∀ v' w', OwnI w' base v' (l ++ m) → w.grownBy w' v.ownBlock → (v'.ownBlock = v.ownBlock ∨ v'.ownBlock = some w.heap.size) → Below base w w' → wpList Try.prog ops Q rest (a.put o.dst v') w') :
    wpList Try.prog ops Q (o :: rest) a w := by
  subst hn
  obtain ⟨i0, hi0, hz0, hz1, hz2⟩ := info_parts infoInt
  cases A with
  | none => exact absurd rfl hc
  | some ad =>
    refine wpList_append_own_at _ hgd s x _ ho base 3 i0 _ 1 8 Try.underlying22 hi0 hz0 hz1 hz2 rfl (by omega) v l.length (iflat l) hs hown ad m.length c (iflat m) hx (by rw [iflat_length, Nat.mul_one]) ?_ (iflat_one m) (by simp only [maxLen]; omega) (by omega) hbase ?_
    · intro j u hu
      have hj : j < (iflat m).length := (List.getElem?_eq_some_iff.1 hu).1
      rw [iflat_length] at hj
      obtain ⟨g, o', e, _, hcell⟩ := hR (by omega)
      injection e with e
      subst e
      rw [add_off]
      exact hcell j u hu
    · intro v' w' hown' hgr _ hbl
      refine h v' w' ?_ hgr hbl ((Below.refl _ _).grown hgr hbase (fun k hk => (World.ownsRow.lt hown k hk).1))
      unfold OwnI
      rw [iflat_append, List.length_append]
      exact hown'
theorem numsGrown {w w' : World} {A : Option Addr} {l : List Int} (h : Nums w A l) {row : Option Nat} (hg : w.grownBy w' row) (hne : ∀ g o, A = some ⟨g, o, none⟩ → row ≠ some g) : Nums w' A l := by
  intro h0
  obtain ⟨g, o, rfl, hlt, hc⟩ := h h0
  refine ⟨g, o, rfl, Nat.lt_of_lt_of_le hlt hg.size, fun j u hu => ?_⟩
  rw [World.cell?_of_block (a := ⟨g, o + j, none⟩) (hg.block g hlt (Ne.symm (hne g o rfl)))]
  exact hc j u hu
/-- a sorted list with a number put in its place -/
theorem sorted_insert {l : List Int} {x : Int} (hs : l.Pairwise (· ≤ ·)) (j : Nat) (h1 : ∀ y ∈ l.take j, y ≤ x) (h2 : ∀ y ∈ l.drop j, x < y) : (l.take j ++ [x] ++ l.drop j).Pairwise (· ≤ ·) := by
  have h3 := hs
  rw [← List.take_append_drop j l, List.pairwise_append] at h3
  obtain ⟨a, b, c⟩ := h3
  rw [List.pairwise_append, List.pairwise_append]
  refine ⟨⟨a, by simp, fun y hy z hz => ?_⟩, b, fun y hy z hz => ?_⟩
  · simp only [List.mem_singleton] at hz
    rw [hz]
    exact h1 y hy
  · rw [List.mem_append, List.mem_singleton] at hy
    rcases hy with hy | hy
    · exact c y hy z hz
    · have := h2 z hz
      rw [hy]
      omega
/-- in a sorted list whose place j holds more than x, all from there on are more -/
theorem sorted_above {l : List Int} {x : Int} (hs : l.Pairwise (· ≤ ·)) {j : Nat} (hj : j < l.length) (hx : x < l[j]) : ∀ y ∈ l.drop j, x < y := by
  intro y hy
  rw [List.mem_iff_getElem] at hy
  obtain ⟨i, hi, rfl⟩ := hy
  rw [List.getElem_drop]
  rw [List.length_drop] at hi
  rcases Nat.eq_zero_or_pos i with h | h
  · subst h
    exact hx
  · have := List.pairwise_iff_getElem.1 hs j (j + i) hj (by omega) (by omega)
    omega
end Go.Proofs.Ytojplcchoffapaa
