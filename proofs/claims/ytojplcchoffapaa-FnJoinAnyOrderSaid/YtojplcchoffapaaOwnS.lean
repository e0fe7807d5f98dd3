/- Words for memory: a slice of steps of the call's own; append of one step. Conditions: fewer than 549755813888 steps. -/
import Derived.Test.YtojplcchoffapaaWalk
import Derived.Test.YtojplcchoffapaaAppend
namespace Go.Proofs.Ytojplcchoffapaa
open Go.RowKit

theorem infoStep : (Try.prog.info? 71).map (fun i => (i.zero, i.size, i.bytes)) = some (some (.agg #[.int .i64 0, .int .i64 0, .int .i64 0, .int .i64 0, .int .i64 0, .int .i64 0, .int .i64 0, .int .i64 0]), 8, 64) := by kernel_rfl

/-- the slice v is the call's own (its blocks begin at base) and holds the steps l -/
def OwnS (w : World) (base : Nat) (v : Value) (l : List S) : Prop := w.ownsRow base 71 8 v l.length (sflat l)
/-- it returns a new slice of the steps l -/
def RetS (l : List S) (w : World) (e : Ending) (w' : World) : Prop := ∃ v, e = .returned v ∧ OwnS w' w.heap.size v l ∧ Below w.heap.size w w'

section
variable {w w' : World} {base B : Nat} {v : Value} {l : List S} {A : Option Addr}
theorem OwnS.keep (h : OwnS w base v l) (hb : ∀ k, k < w.heap.size → w'.heap[k]? = w.heap[k]?) : OwnS w' base v l := by
  unfold OwnS at *
  refine ⟨h.1, ?_⟩
  rcases h.2 with h2 | ⟨g, cap, cur, hv, hg, hh, r⟩
  · exact .inl h2
  · have hlt : g < w.heap.size := by
      rcases Nat.lt_or_ge g w.heap.size with h | h
      · exact h
      · rw [Array.getElem?_eq_none h] at hh; cases hh
    exact .inr ⟨g, cap, cur, hv, hg, (hb g hlt).trans hh, r⟩
theorem OwnS.by (h : OwnS w base v l) (hb : Below w.heap.size w w') : OwnS w' base v l := h.keep hb.block
theorem OwnS.alloc (h : OwnS w base v l) (o : Obj) : OwnS (w.alloc o) base v l := h.by ((Below.refl _ _).alloc (Nat.le_refl _) _)
theorem OwnS.mono {base' : Nat} (h : OwnS w base v l) (hb : base' ≤ base) : OwnS w base' v l := World.ownsRow.mono h hb
theorem OwnS.form (h : OwnS w base v l) : ∃ A c, v = .slice A l.length c ∧ Steps w A l := by
  have h' := h
  unfold OwnS at h
  rcases h.2 with ⟨rfl, hn⟩ | ⟨g, cap, cur, rfl, hg, hh, r⟩
  · exact ⟨none, 0, by rw [hn], fun h0 => by omega⟩
  · refine ⟨_, _, rfl, fun h0 => ⟨g, 0, rfl, ?_, fun j u hu => ?_⟩⟩
    · rcases Nat.lt_or_ge g w.heap.size with h | h
      · exact h
      · rw [Array.getElem?_eq_none h] at hh; cases hh
    · have := World.ownsRow.cells (w := w) (base := base) (e := 71) (size := 8) h' (g := g) rfl j u hu
      rw [add_off] at this
      exact this
theorem Steps.alloc (h : Steps w A l) (o : Obj) : Steps (w.alloc o) A l := h.by ((Below.refl _ _).alloc (Nat.le_refl _) _)
end
theorem Steps.addr {w : World} {A : Option Addr} {l : List S} (h : Steps w A l) (h0 : 0 < l.length) : ∃ g o, A = some ⟨g, o, none⟩ ∧ g < w.heap.size := by
  obtain ⟨g, o, e, hg, _⟩ := h h0
  exact ⟨g, o, e, hg⟩
theorem ownS_empty (w : World) : OwnS (w.alloc (.cells #[] 71)) w.heap.size (.slice (some ⟨w.heap.size, 0, none⟩) 0 0) [] :=
  ⟨rfl, .inr ⟨_, 0, #[], rfl, Nat.le_refl _, heap_alloc_new _ _, Nat.le_refl _, Nat.zero_le _, rfl, rfl⟩⟩

/-- append of one step to a slice of the call's own -/
theorem append_step {ops : Array Oper} {rest : List Oper} {o : Oper} {a : Act} {Q : Exit → Act → World → Prop} (hgd : o.guard = none) (s x : Operand)
    (ho : o.op = .call { callee := .builtin .append, args := #[s, x], argTypes := #[72, 72] }) (w : World) (base : Nat) (v : Value) (l : List S) (r : S)
    (hs : a.eval s = v) (hown : OwnS w base v l) (hx : a.eval x = .slice (some ⟨w.heap.size, 0, none⟩) 1 1) (hlen : l.length < 549755813888) (hbase : base ≤ w.heap.size)
    (h : ∀ v' w', OwnS w' base v' (l ++ [r]) → Below base w w' → (∀ g t vs, t ≠ 71 → At w g t vs → At w' g t vs) → wpList Try.prog ops Q rest (a.put o.dst v') w') :
    wpList Try.prog ops Q (o :: rest) a (w.alloc (.cells #[.int .i64 r.op, .int .i64 r.px, .int .i64 r.py, .int .i64 r.n, .int .i64 r.r.x0, .int .i64 r.r.y0, .int .i64 r.r.x1, .int .i64 r.r.y1] 71)) := by
  obtain ⟨i0, hi0, hz0, hz1, hz2⟩ := info_parts infoStep
  refine wpList_append_own _ hgd s x _ ho base 71 i0 _ 8 64 Try.underlying72 hi0 hz0 hz1 hz2 rfl (by omega) v l.length (sflat l) hs (hown.alloc _) ⟨w.heap.size, 0, none⟩ 1 1 (sflat1 r) hx rfl ?_ ?_ (by simp only [maxLen]; omega) (by omega) (by simp; omega) ?_
  · intro j u hu
    rw [add_off, Nat.zero_add]
    have := (At.new w 71 (sflat1 r)).cell j
    rw [hu] at this
    exact this
  · intro u hu
    exact sflat_one [r] u (by simpa [sflat] using hu)
  · intro v' w' hown' hg _
    refine h v' w' ?_ ?_ ?_
    · unfold OwnS
      rw [sflat_snoc, List.length_append]
      exact hown'
    · refine ((Below.refl _ _).alloc hbase _).grown hg (by simp; omega) (fun k hk => ?_)
      exact ((hown.alloc (.cells #[.int .i64 r.op, .int .i64 r.px, .int .i64 r.py, .int .i64 r.n, .int .i64 r.r.x0, .int .i64 r.r.y0, .int .i64 r.r.x1, .int .i64 r.r.y1] 71) : OwnS _ _ _ _) |> fun hh => (World.ownsRow.lt hh k hk).1)
    · intro g t vs ht hg2
      refine (hg.block g (by have := hg2.lt; rw [size_alloc]; omega) (fun e => ?_)).trans (hg2.alloc _)
      rcases hown.2 with ⟨rfl, _⟩ | ⟨k, cap, cur, rfl, hk, hh, _⟩
      · simp [Value.ownBlock] at e
      · have hkg : g = k := by simpa [Value.ownBlock] using e
        subst hkg
        unfold At at hg2
        rw [hh] at hg2
        injection hg2 with hg2
        injection hg2 with _ e2
        exact ht e2.symm

/-- the script of five lists -/
def stepAt (z0 z1 z2 z3 : List Int) (z4 : List (List Int)) (i : Nat) : S := ⟨z0.getD i 0, z1.getD i 0, z2.getD i 0, z3.getD i 0, rectOf (z4.getD i [])⟩
def scriptS (z0 z1 z2 z3 : List Int) (z4 : List (List Int)) (k : Nat) : List S := (List.range k).map (stepAt z0 z1 z2 z3 z4)
theorem scriptS_length (z0 z1 z2 z3 : List Int) (z4 : List (List Int)) (k : Nat) : (scriptS z0 z1 z2 z3 z4 k).length = k := by simp [scriptS]
theorem scriptS_succ (z0 z1 z2 z3 : List Int) (z4 : List (List Int)) (k : Nat) : scriptS z0 z1 z2 z3 z4 (k + 1) = scriptS z0 z1 z2 z3 z4 k ++ [stepAt z0 z1 z2 z3 z4 k] := by simp [scriptS, List.range_succ]
theorem Ints.out {w : World} {A : Option Addr} {n : Nat} {zs : List Int} (h : Ints w A n zs) {i : Nat} (hi : ¬ i < n) : zs.getD i 0 = 0 := by
  have := h.1
  simp [List.getElem?_eq_none (show zs.length ≤ i by omega)]
theorem Ints.at_ {w : World} {A : Option Addr} {n : Nat} {zs : List Int} (h : Ints w A n zs) {i : Nat} (hi : i < n) : ∃ b o, A = some ⟨b, o, none⟩ ∧ b < w.heap.size ∧ w.cell? ⟨b, o + i, none⟩ = some (.int .i64 (zs.getD i 0)) := by
  obtain ⟨b, o, e, hlt, hc⟩ := h.2 (by omega)
  exact ⟨b, o, e, hlt, hc i hi⟩
end Go.Proofs.Ytojplcchoffapaa
