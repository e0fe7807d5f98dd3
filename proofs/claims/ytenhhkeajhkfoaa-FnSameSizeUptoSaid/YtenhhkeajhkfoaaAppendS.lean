/- Append of one step that lies in a block of its own to a slice of the call's own. Conditions: fewer than 549755813888 steps. -/
import Derived.Test.YtenhhkeajhkfoaaOwnS
namespace Go.Proofs.Ytenhhkeajhkfoaa
open Go.RowKit

theorem append_step_at {ops : Array Oper} {rest : List Oper} {o : Oper} {a : Act} {Q : Exit → Act → World → Prop} (hgd : o.guard = none) (s x : Operand)
    (ho : o.op = .call { callee := .builtin .append, args := #[s, x], argTypes := #[27, 27] }) (w : World) (base g : Nat) (v : Value) (l : List S) (r : S)
    (hs : a.eval s = v) (hown : OwnS w base v l) (hx : a.eval x = .slice (some ⟨g, 0, none⟩) 1 1) (hg : At w g 31 (sflat1 r)) (hlen : l.length < 549755813888) (hbase : base ≤ w.heap.size)
    (h : ∀ v' w', OwnS w' base v' (l ++ [r]) → Below base w w' → (∀ g t vs, t ≠ 31 → At w g t vs → At w' g t vs) → (∀ b v2 l2, b ≤ w.heap.size → (∀ k, v2.ownBlock = some k → v.ownBlock ≠ some k) → OwnS w b v2 l2 → OwnS w' b v2 l2) → wpList Try.prog ops Q rest (a.put o.dst v') w') :
    wpList Try.prog ops Q (o :: rest) a w := by
  obtain ⟨i0, hi0, hz0, hz1, hz2⟩ := info_parts infoStep
  refine wpList_append_own _ hgd s x _ ho base 31 i0 _ 8 64 Try.underlying27 hi0 hz0 hz1 hz2 rfl (by omega) v l.length (sflat l) hs hown ⟨g, 0, none⟩ 1 1 (sflat1 r) hx rfl ?_ ?_ (by simp only [maxLen]; omega) (by omega) hbase ?_
  · intro j u hu
    rw [add_off, Nat.zero_add]
    have := hg.cell j
    rw [hu] at this
    exact this
  · intro u hu
    exact sflat_one [r] u (by simpa [sflat] using hu)
  · intro v' w' hown' hgr _
    refine h v' w' ?_ ?_ ?_ ?_
    · unfold OwnS
      rw [sflat_snoc, List.length_append]
      exact hown'
    · exact (Below.refl _ _).grown hgr hbase (fun k hk => (World.ownsRow.lt hown k hk).1)
    · intro g2 t vs ht hg2
      refine (hgr.block g2 hg2.lt (fun e => ?_)).trans hg2
      rcases hown.2 with ⟨rfl, _⟩ | ⟨k, cap, cur, rfl, hk, hh, _⟩
      · simp [Value.ownBlock] at e
      · have hkg : g2 = k := by simpa [Value.ownBlock] using e
        subst hkg
        unfold At at hg2
        rw [hh] at hg2
        injection hg2 with hg2
        injection hg2 with _ e2
        exact ht e2.symm
    · intro b v2 l2 hb hne h2
      refine World.ownsRow.kept h2 hgr ?_
      cases hv2 : v2.ownBlock with
      | none => exact .inl rfl
      | some k => exact .inr (Ne.symm (hne k hv2))
end Go.Proofs.Ytenhhkeajhkfoaa
