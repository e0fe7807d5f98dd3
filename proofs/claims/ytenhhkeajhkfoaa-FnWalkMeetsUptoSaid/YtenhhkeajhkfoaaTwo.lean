/- Two slices of the call's own that grow side by side. Conditions: fewer than 549755813888 steps. -/
import Derived.Test.YtenhhkeajhkfoaaOwnS
import Derived.Test.YtenhhkeajhkfoaaPlainSplit
import Derived.Test.YtenhhkeajhkfoaaRegion
import Derived.Maps.AppendAt
namespace Go.Proofs.Ytenhhkeajhkfoaa
open Go.RowKit

/-- two slices of steps, in blocks of their own -/
def TwoS (u : World) (base : Nat) (x y : Value) (lx ly : List S) : Prop := OwnS u base x lx ∧ OwnS u base y ly ∧ Apart x y
theorem TwoS.by {u u' : World} {base : Nat} {x y : Value} {lx ly : List S} (h : TwoS u base x y lx ly) (hb : Below u.heap.size u u') : TwoS u' base x y lx ly := ⟨h.1.by hb, h.2.1.by hb, h.2.2⟩
theorem TwoS.drew {u : World} {base : Nat} {x y : Value} {lx ly : List S} (h : TwoS u base x y lx ly) : TwoS u.drew base x y lx ly := ⟨h.1.keep (fun _ _ => rfl), h.2.1.keep (fun _ _ => rfl), h.2.2⟩
theorem Apart.symm {x y : Value} (h : Apart x y) : Apart y x := fun k hy hx => h k hx hy
theorem At.grown {w w' : World} {row : Option Nat} (hg : w.grownBy w' row) {g : Nat} {t : TypeId} {vs : List Value} (h : At w g t vs) (hne : row ≠ some g) : At w' g t vs := (hg.block g h.lt (Ne.symm hne)).trans h
theorem OwnS.grown {w w' : World} {base : Nat} {v v2 : Value} {l2 : List S} (hg : w.grownBy w' v.ownBlock) (h : OwnS w base v2 l2) (ha : Apart v2 v) : OwnS w' base v2 l2 := by
  refine World.ownsRow.kept h hg ?_
  cases hv2 : v2.ownBlock with
  | none => exact .inl rfl
  | some k => exact .inr (Ne.symm (ha k hv2))
theorem apart_grown {w : World} {base : Nat} {v v' v2 : Value} {l2 : List S} (h : OwnS w base v2 l2) (ha : Apart v2 v) (hb : v'.ownBlock = v.ownBlock ∨ v'.ownBlock = some w.heap.size) : Apart v2 v' := by
  intro k e e'
  rcases hb with hb | hb
  · rw [hb] at e'; exact ha k e e'
  · rw [hb] at e'
    injection e' with e'
    have := (World.ownsRow.lt h k e).2
    omega

theorem op_append {P : Program} {w : World} {ops : Array Oper} {i : Nat} {o : Oper} {a : Act} {K : Act → World → Prop} {Q : Exit → Act → World → Prop} (hi : ops[i]? = some o) (hgd : o.guard = none) (s x : Operand) (t : TypeId)
    (ho : o.op = .call { callee := .builtin .append, args := #[s, x], argTypes := #[t, t] })
    (base : Nat) (e : TypeId) (inf : TypeInfo) (z : Value) (size bytes : Nat) (ht : P.underlying t = some (.slice e)) (hif : P.info? e = some inf) (hz : inf.zero = some z)
    (hsize : inf.size = size) (hby : inf.bytes = bytes) (hzs : z.cells.size = size) (hsz : 0 < size)
    (v : Value) (n : Nat) (xs : List Value) (hs : a.eval s = v) (hown : w.ownsRow base e size v n xs)
    (ad : Addr) (m c : Nat) (news : List Value) (hx : a.eval x = .slice (some ad) m c) (hl : news.length = m * size) (hnews : ∀ j u, news[j]? = some u → w.cell? (ad.add j) = some u) (h1 : ∀ u ∈ news, u.oneCell' = true)
    (h63 : n + m ≤ maxLen) (hbytes : (n + m) * bytes ≤ 140737488355328) (hbase : base ≤ w.heap.size)
    (h : ∀ v' w', w'.ownsRow base e size v' (n + m) (xs ++ news) → w.grownBy w' v.ownBlock → (v'.ownBlock = v.ownBlock ∨ v'.ownBlock = some w.heap.size) → K (a.put o.dst v') w') :
    wpOp P ops Q i K a w := by
  unfold wpOp
  rw [hi]
  have hw : Region.wanted o (yielded ops a.tmps) = true := by simp [Region.wanted, hgd]
  simp only [hw, if_true]
  left
  obtain ⟨v', w', hr, h2, h3, h4, h5⟩ := run_append_own_at (P := P) w base t o.type e inf z size bytes ht hif hz hsize hby hzs hsz v n xs hown ad m c news hl hnews h1 h63 hbytes hbase
  unfold Oper.wp execOp
  simp only [ho, resolve, invoke, builtin, Sem.run_bind, Sem.run_pure, Result.andThen_ok, List.map_toArray, List.map_cons, List.map_nil, hs, hx, hr]
  exact h v' w' h2 h3 h5

/-- append of one step, as one operation of a statement whose order is open -/
theorem op_append_step {ops : Array Oper} {i : Nat} {o : Oper} {a : Act} {K : Act → World → Prop} {Q : Exit → Act → World → Prop} (hi : ops[i]? = some o) (hgd : o.guard = none) (s x : Operand)
    (ho : o.op = .call { callee := .builtin .append, args := #[s, x], argTypes := #[27, 27] }) (w : World) (base g : Nat) (v : Value) (l : List S) (r : S)
    (hs : a.eval s = v) (hown : OwnS w base v l) (hx : a.eval x = .slice (some ⟨g, 0, none⟩) 1 1) (hg : At w g 31 (sflat1 r)) (hlen : l.length < 549755813888) (hbase : base ≤ w.heap.size)
    (h : ∀ v' w', OwnS w' base v' (l ++ [r]) → w.grownBy w' v.ownBlock → (v'.ownBlock = v.ownBlock ∨ v'.ownBlock = some w.heap.size) → Below base w w' → K (a.put o.dst v') w') :
    wpOp Try.prog ops Q i K a w := by
  obtain ⟨i0, hi0, hz0, hz1, hz2⟩ := info_parts infoStep
  refine op_append hi hgd s x _ ho base 31 i0 _ 8 64 Try.underlying27 hi0 hz0 hz1 hz2 rfl (by omega) v l.length (sflat l) hs hown ⟨g, 0, none⟩ 1 1 (sflat1 r) hx rfl ?_ ?_ (by simp only [maxLen]; omega) (by omega) hbase ?_
  · intro j u hu
    rw [add_off, Nat.zero_add]
    have := hg.cell j
    rw [hu] at this
    exact this
  · intro u hu
    exact sflat_one [r] u (by simpa [sflat] using hu)
  · intro v' w' hown' hgr hbl
    refine h v' w' ?_ hgr hbl ((Below.refl _ _).grown hgr hbase (fun k hk => (World.ownsRow.lt hown k hk).1))
    unfold OwnS
    rw [sflat_snoc, List.length_append]
    exact hown'
theorem append_step_gr {ops : Array Oper} {rest : List Oper} {o : Oper} {a : Act} {Q : Exit → Act → World → Prop} (hgd : o.guard = none) (s x : Operand)
    (ho : o.op = .call { callee := .builtin .append, args := #[s, x], argTypes := #[27, 27] }) (w : World) (base g : Nat) (v : Value) (l : List S) (r : S)
    (hs : a.eval s = v) (hown : OwnS w base v l) (hx : a.eval x = .slice (some ⟨g, 0, none⟩) 1 1) (hg : At w g 31 (sflat1 r)) (hlen : l.length < 549755813888) (hbase : base ≤ w.heap.size)
    (h : ∀ v' w', OwnS w' base v' (l ++ [r]) → w.grownBy w' v.ownBlock → (v'.ownBlock = v.ownBlock ∨ v'.ownBlock = some w.heap.size) → Below base w w' → wpList Try.prog ops Q rest (a.put o.dst v') w') :
    wpList Try.prog ops Q (o :: rest) a w := by
  obtain ⟨i0, hi0, hz0, hz1, hz2⟩ := info_parts infoStep
  refine wpList_append_own_at _ hgd s x _ ho base 31 i0 _ 8 64 Try.underlying27 hi0 hz0 hz1 hz2 rfl (by omega) v l.length (sflat l) hs hown ⟨g, 0, none⟩ 1 1 (sflat1 r) hx rfl ?_ ?_ (by simp only [maxLen]; omega) (by omega) hbase ?_
  · intro j u hu
    rw [add_off, Nat.zero_add]
    have := hg.cell j
    rw [hu] at this
    exact this
  · intro u hu
    exact sflat_one [r] u (by simpa [sflat] using hu)
  · intro v' w' hown' hgr _ hbl
    refine h v' w' ?_ hgr hbl ((Below.refl _ _).grown hgr hbase (fun k hk => (World.ownsRow.lt hown k hk).1))
    unfold OwnS
    rw [sflat_snoc, List.length_append]
    exact hown'
end Go.Proofs.Ytenhhkeajhkfoaa
