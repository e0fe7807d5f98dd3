/- Append of a whole slice of rectangles to one of the call's own. Conditions: at most 5864062014634 rectangles. -/
import Derived.Test.YtojplcchoffapaaRects
import Derived.Laws.AppendOwnNone
namespace Go.Proofs.Ytojplcchoffapaa
open Go.RowKit

theorem Own.form' {w : World} {base : Nat} {v : Value} {l : List R} (h : Own w base v l) : ∃ A c, v = .slice A l.length c ∧ Rects w A l ∧ (A = none → c = 0) := by
  obtain ⟨A, c, rfl, hR⟩ := h.form
  refine ⟨A, c, rfl, hR, fun hA => ?_⟩
  subst hA
  rcases h.2 with ⟨e, _⟩ | ⟨g, cap, cur, e, _⟩
  · injection e
  · injection e with e1
    cases e1

/-- a block of another type stays as it was -/
theorem grown_other {w w' : World} {base : Nat} {v : Value} {l : List R} (hown : Own w base v l) (hg : w.grownBy w' v.ownBlock) {g : Nat} {t : TypeId} {vs : List Value} (ht : t ≠ 24) (h : At w g t vs) : At w' g t vs := by
  refine (hg.block g h.lt (fun e => ?_)).trans h
  rcases hown.2 with ⟨rfl, _⟩ | ⟨k, cap, cur, rfl, hk, hh, _⟩
  · simp [Value.ownBlock] at e
  · have hkg : g = k := by simpa [Value.ownBlock] using e
    subst hkg
    unfold At at h
    rw [hh] at h
    injection h with h
    injection h with _ e2
    exact ht e2.symm

theorem At.bif_false {u : World} {g : Nat} {t : TypeId} {x y : List Value} {b : Bool} (hb : b = false) (h : At u g t x) : At u g t (bif b then y else x) := by
  subst hb
  exact h

theorem append_rects {ops : Array Oper} {rest : List Oper} {o : Oper} {a : Act} {Q : Exit → Act → World → Prop} (hgd : o.guard = none) (s x : Operand)
    (ho : o.op = .call { callee := .builtin .append, args := #[s, x], argTypes := #[42, 42] }) (w : World) (base : Nat) (v : Value) (l m : List R) (A : Option Addr) (c : Nat)
    (hs : a.eval s = v) (hown : Own w base v l) (hx : a.eval x = .slice A m.length c) (hR : Rects w A m) (hc : A = none → c = 0) (hlen : l.length + m.length ≤ 5864062014634) (hbase : base ≤ w.heap.size)
    (h : ∀ v' w', Own w' base v' (l ++ m) → Below base w w' → (∀ g t vs, t ≠ 24 → At w g t vs → At w' g t vs) → (∀ b v2 l2, b ≤ w.heap.size → (∀ k, v2.ownBlock = some k → v.ownBlock ≠ some k) → Own w b v2 l2 → Own w' b v2 l2) → wpList Try.prog ops Q rest (a.put o.dst v') w') :
    wpList Try.prog ops Q (o :: rest) a w := by
  obtain ⟨i0, hi0, hz0, hz1, hz2⟩ := info_parts infoRect
  cases A with
  | none =>
    have hm : m = [] := by
      cases m with
      | nil => rfl
      | cons r m =>
        obtain ⟨g, o', e, _⟩ := hR (by simp)
        cases e
    subst hm
    obtain rfl := hc rfl
    refine wpList_append_own_none hgd s x _ ho base 24 i0 4 Try.underlying42 hi0 v l.length (flat l) hs hown hx ?_
    exact h v w (by rw [List.append_nil]; exact hown) (Below.refl _ _) (fun _ _ _ _ hg => hg) (fun _ _ _ _ _ h2 => h2)
  | some ad =>
    refine wpList_append_own_wide _ hgd s x _ ho base 24 i0 _ 4 32 Try.underlying42 hi0 hz0 hz1 hz2 rfl (by omega) v l.length (flat l) hs hown ad m.length c (flat m) hx (flat_length m) ?_ (flat_one m) (by simp only [maxLen]; omega) (by omega) hbase ?_
    · intro j u hu
      have hj : j < (flat m).length := (List.getElem?_eq_some_iff.1 hu).1
      rw [flat_length] at hj
      obtain ⟨g, o', e, _, hcell⟩ := hR (by omega)
      injection e with e
      subst e
      rw [add_off]
      exact hcell j u hu
    · intro v' w' hown' hg _
      refine h v' w' ?_ ?_ ?_ ?_
      · unfold Own
        rw [flat_append, List.length_append]
        exact hown'
      · exact (Below.refl _ _).grown hg hbase (fun k hk => (World.ownsRow.lt hown k hk).1)
      · intro g t vs ht hg2
        exact grown_other hown hg ht hg2
      · intro b v2 l2 hb hne h2
        refine World.ownsRow.kept h2 hg ?_
        cases hv2 : v2.ownBlock with
        | none => exact .inl rfl
        | some k => exact .inr (Ne.symm (hne k hv2))
end Go.Proofs.Ytojplcchoffapaa
