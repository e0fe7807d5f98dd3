/- The walk of FnWalkMonotone. Conditions: at most 1048576 kinds. -/
import Derived.Test.YtenhhkeajhkfoaaCompared
import Derived.Test.YtenhhkeajhkfoaaPlainMono
import Derived.Test.YtenhhkeajhkfoaaHas
import Derived.Test.YtenhhkeajhkfoaaBoth
import Derived.Test.YtenhhkeajhkfoaaRegion2
namespace Go.Proofs.Ytenhhkeajhkfoaa
open Go.RowKit

theorem tellv (a b c d e f g h : Int) (w : World) (v : Bool) (hv : R.sub ⟨a, b, c, d⟩ ⟨e, f, g, h⟩ = v) :
    Calls Try.prog 37 #[.agg #[.int .i64 0, .int .i64 0], .agg #[.int .i64 a, .int .i64 b, .int .i64 c, .int .i64 d], .agg #[.int .i64 e, .int .i64 f, .int .i64 g, .int .i64 h]] w fun x w' => ∃ v0 v2 v3 v4 v5 v6, x = .returned (.agg #[v0, .bool v, v2, v3, v4, v5, v6]) ∧ Below w.heap.size w w' :=
  (tell_any 0 0 a b c d e f g h w).mono fun _ _ ⟨h1, h2⟩ => ⟨_, _, _, _, _, _, by rw [← hv]; exact h1, h2⟩

set_option maxHeartbeats 1000000 in
theorem mono1_any (p q s t p' q' s' t' : Int) (w : World) (hs : R.sub ⟨p, q, s, t⟩ ⟨p', q', s', t'⟩ = true) :
    Calls Try.prog 38 #[.agg #[.int .i64 p, .int .i64 q, .int .i64 s, .int .i64 t], .agg #[.int .i64 p', .int .i64 q', .int .i64 s', .int .i64 t']] w fun e w' => e = .returned (.bool true) ∧ Below w.heap.size w w' := by
  have HS := Lib.hid hs
  clear hs
  have hf := told1
  go_enter Try.func38, Try.ntmps38
  go_wp2_with fail
  refine (tellv p q s t p' q' s' t' _ _ HS.out).mono ?_
  rintro _ w1 ⟨v0, v2, v3, v4, v5, v6, rfl, hb1⟩
  have HB := Lib.hid ((two_new w _ _).trans (hb1.mono (by simp only [size_alloc]; omega)))
  clear hb1
  go_wp2
  go_ret
  exact ⟨rfl, HB.out⟩

theorem OwnS.ne {w : World} {base g n c o : Nat} {l : List S} (h : OwnS w base (.slice (some ⟨g, o, none⟩) n c) l) {g' : Nat} {t : TypeId} {vs : List Value} (h' : At w g' t vs) (ht : t ≠ 31) : g' ≠ g := by
  obtain ⟨_, _, _, cur, hh, _⟩ := h.open_
  rintro rfl
  unfold At at h'
  rw [hh] at h'
  injection h' with h'
  injection h' with _ e
  exact ht e.symm

/-- the first k steps tamed -/
def tameTo (l : List S) (k : Nat) : List S := (l.take k).map S.tame ++ l.drop k
theorem tameTo_length (l : List S) (k : Nat) : (tameTo l k).length = l.length := by simp [tameTo]; omega
theorem tameTo_zero (l : List S) : tameTo l 0 = l := by simp [tameTo]
theorem tameTo_all (l : List S) : tameTo l l.length = l.map S.tame := by simp [tameTo]
theorem tameTo_get (l : List S) (k : Nat) (hk : k < l.length) : (tameTo l k)[k]'(by rw [tameTo_length]; exact hk) = l[k] := by
  simp [tameTo, Nat.min_eq_left (Nat.le_of_lt hk)]
theorem tameTo_succ (l : List S) (k : Nat) (hk : k < l.length) : tameTo l (k + 1) = (tameTo l k).set k (l[k].tame) := by
  unfold tameTo
  rw [List.take_succ_eq_append_getElem hk, List.map_append, List.append_assoc]
  rw [List.set_append_right _ _ (by simp; omega)]
  have e : k - ((l.take k).map S.tame).length = 0 := by simp; omega
  rw [e, List.drop_eq_getElem_cons hk]
  rfl

set_option maxHeartbeats 8000000 in
theorem mono_walk (A B A0 A1 A2 A3 A4 : Option Addr) (n c nb cb n0 c0 n1 c1 n2 c2 n3 c3 n4 c4 : Nat) (z zb z0 z1 z2 z3 : List Int) (z4 : List (List Int)) (w : World)
    (ha : Ints w A n z) (hb : Ints w B nb zb) (h0 : Ints w A0 n0 z0) (h1 : Ints w A1 n1 z1) (h2 : Ints w A2 n2 z2) (h3 : Ints w A3 n3 z3) (h4 : RowsAt w A4 n4 z4) (hn : n0 ≤ 1048576) :
    Calls Try.prog 13 #[.slice A n c, .slice B nb cb, .slice A0 n0 c0, .slice A1 n1 c1, .slice A2 n2 c2, .slice A3 n3 c3, .slice A4 n4 c4] w fun e w' => e = .returned (.bool true) ∧ Below w.heap.size w w' := by
  have L := fun u hu => lrect_any A n c z u hu
  have LB := fun u hu => lrect_any B nb cb zb u hu
  generalize rectOf z = sr at L
  generalize rectOf zb = sb at LB
  obtain ⟨a, b, x, d⟩ := sr
  obtain ⟨e, f, g, h⟩ := sb
  obtain ⟨m, hm⟩ : ∃ m, stepR 4 0 0 0 ⟨e, f, g, h⟩ ⟨a, b, x, d⟩ = m := ⟨_, rfl⟩
  have hsub : m.sub ⟨e, f, g, h⟩ = true := by rw [← hm]; exact (inter_sub ⟨a, b, x, d⟩ ⟨e, f, g, h⟩).2
  have HL := Lib.hid L
  have HLB := Lib.hid LB
  have HM := Lib.hid hm
  have HSUB := Lib.hid hsub
  have HS := Lib.hid (fun u b0 b1 b2 b3 b4 => script_any A0 A1 A2 A3 A4 n0 c0 n1 c1 n2 c2 n3 c3 n4 c4 z0 z1 z2 z3 z4 u b0 b1 b2 b3 b4 hn)
  obtain ⟨l, hl⟩ : ∃ l, scriptS z0 z1 z2 z3 z4 n0 = l := ⟨_, rfl⟩
  have hlm : l.length ≤ 1048576 := by rw [← hl, scriptS_length]; exact hn
  rw [hl] at HS
  have H := Lib.hid ha
  have HBB := Lib.hid hb
  have HH := Lib.hid (And.intro h0 (And.intro h1 (And.intro h2 (And.intro h3 h4))))
  clear L LB ha hb h0 h1 h2 h3 h4 hl hm hsub
  go_enter Try.func13, Try.ntmps13
  go_wp2_with fail
  refine (HLB.out _ HBB.out).mono ?_
  rintro _ w1 ⟨rfl, hb1⟩
  have HB1 := Lib.hid hb1
  clear hb1 HLB HBB
  go_wp2_with fail
  refine wp_region_tail [[], [0], [], [0, 1, 2], [0, 1, 2, 3], [0, 1, 2, 3, 4], [0, 1, 2, 3, 4], [], [0, 1, 2, 3, 4, 5, 7], [0, 1, 2, 3, 4, 5, 6, 7, 8]] (by kernel_rfl) (by kernel_rfl) 10 rfl (by decide) (by decide) (by kernel_rfl)
    (fun L a' u => ∃ v16 v17 v23 v24 v25 v26 v27 v28 v29 : Value, a' = ⟨#[Value.slice A n c, Value.slice B nb cb, Value.slice A0 n0 c0, Value.slice A1 n1 c1, Value.slice A2 n2 c2, Value.slice A3 n3 c3, Value.slice A4 n4 c4, undef, undef, undef, undef, undef, undef, undef, Value.bool false, Value.pointer (some { block := w1.heap.size, off := 0 }), v16, v17, undef, undef, undef, Value.slice B nb cb, Value.agg #[Value.int IntKind.i64 e, Value.int IntKind.i64 f, Value.int IntKind.i64 g, Value.int IntKind.i64 h], v23, v24, v25, v26, v27, v28, v29, undef, undef, undef, undef, undef, undef, undef, undef, undef, undef, undef, undef, undef, undef, undef, undef, undef, undef, undef, undef, undef, undef, undef, undef, undef, undef, undef, undef, undef, undef, undef, undef, undef, undef, undef, undef, undef, undef, undef, undef, undef, undef, undef, undef, undef, undef, undef], []⟩ ∧
      Hid (L 0 = true → v24 = .slice A n c) ∧ Hid (L 1 = true → v25 = .agg #[.int .i64 a, .int .i64 b, .int .i64 x, .int .i64 d]) ∧ Hid (L 2 = true → v26 = .agg #[.int .i64 e, .int .i64 f, .int .i64 g, .int .i64 h]) ∧ Hid (L 3 = true → v27 = .tuple #[.agg #[.int .i64 m.x0, .int .i64 m.y0, .int .i64 m.x1, .int .i64 m.y1], .bool true]) ∧ Hid (L 4 = true → v23 = .tuple #[.agg #[.int .i64 m.x0, .int .i64 m.y0, .int .i64 m.x1, .int .i64 m.y1], .bool true]) ∧ Hid (L 5 = true → v28 = .agg #[.int .i64 m.x0, .int .i64 m.y0, .int .i64 m.x1, .int .i64 m.y1]) ∧ Hid (L 6 = true → v29 = .bool true) ∧ Hid (L 7 = true → ∃ g16, v16 = .pointer (some ⟨g16, 0, none⟩) ∧ (w1.heap.size + 1) ≤ g16 ∧ At u g16 25 (bif L 8 then [.int .i64 m.x0, .int .i64 m.y0, .int .i64 m.x1, .int .i64 m.y1] else [.int .i64 0, .int .i64 0, .int .i64 0, .int .i64 0])) ∧ Hid (L 9 = true → v17 = .bool true) ∧ Hid (L 8 = true → L 7 = true) ∧ (At u w1.heap.size 25 [.int .i64 e, .int .i64 f, .int .i64 g, .int .i64 h] ∧ Below w1.heap.size w1 u)) ?_ ?_ ?_
  · refine ⟨_, _, _, _, _, _, _, _, _, rfl, (Lib.hid fun h => by cases h), (Lib.hid fun h => by cases h), (Lib.hid fun h => by cases h), (Lib.hid fun h => by cases h), (Lib.hid fun h => by cases h), (Lib.hid fun h => by cases h), (Lib.hid fun h => by cases h), (Lib.hid fun h => by cases h), (Lib.hid fun h => by cases h), (Lib.hid fun h => by cases h), ?_⟩
    exact ⟨(At.new w1 _ _).drew, ((Below.refl _ _).alloc (Nat.le_refl _) _).drew⟩
  · intro L a' u i hi hI hL hd
    obtain ⟨v16, v17, v23, v24, v25, v26, v27, v28, v29, rfl, k0, k1, k2, k3, k4, k5, k6, k7, k9, q8, hW⟩ := hI
    obtain rfl | rfl | rfl | rfl | rfl | rfl | rfl | rfl | rfl | rfl : i = 0 ∨ i = 1 ∨ i = 2 ∨ i = 3 ∨ i = 4 ∨ i = 5 ∨ i = 6 ∨ i = 7 ∨ i = 8 ∨ i = 9 := by omega
    · -- operation 0
      have HW := Lib.hid hW
      clear hW hL hd
      refine wpOp_step rfl fun K hK => ?_
      go_simp
      refine hK _ _ ⟨_, _, _, _, _, _, _, _, _, rfl, (Lib.hid fun _ => rfl), k1, k2, k3, k4, k5, k6, k7, k9, q8, HW.out⟩
    · -- operation 1
      obtain rfl := k0.out (hd 0 (by decide))
      have HW := Lib.hid hW
      clear hW hL hd
      refine wpOp_step rfl fun K hK => ?_
      go_simp
      go_at_call 14
      refine (HL.out _ (H.out.below (Nat.le_refl _) (HB1.out.trans (HW.out.2.mono HB1.out.size)))).mono ?_
      rintro _ w' ⟨rfl, hb⟩
      refine hK _ _ ⟨_, _, _, _, _, _, _, _, _, rfl, k0, (Lib.hid fun _ => rfl), k2, k3, k4, k5, k6, (Lib.hid fun hl => ?_), k9, q8, ⟨HW.out.1.by hb, HW.out.2.trans (hb.mono HW.out.2.size)⟩⟩
      · obtain ⟨gg, eg, lg, hg⟩ := k7.out hl
        exact ⟨gg, eg, lg, hg.by hb⟩
    · -- operation 2
      obtain ⟨c0, c1, c2, c3⟩ := hW.1.four.1
      have HW := Lib.hid hW
      clear hW hL hd
      refine wpOp_step rfl fun K hK => ?_
      go_simp
      refine hK _ _ ⟨_, _, _, _, _, _, _, _, _, rfl, k0, k1, (Lib.hid fun _ => rfl), k3, k4, k5, k6, k7, k9, q8, HW.out⟩
    · -- operation 3
      obtain rfl := k1.out (hd 1 (by decide))
      obtain rfl := k2.out (hd 2 (by decide))
      have HW := Lib.hid hW
      clear hW hL hd
      refine wpOp_step rfl fun K hK => ?_
      go_simp
      go_at_call 34
      refine (HM.out ▸ both_any 4 a b x d e f g h _).mono ?_
      rintro _ w' ⟨rfl, hb⟩
      refine hK _ _ ⟨_, _, _, _, _, _, _, _, _, rfl, k0, k1, k2, (Lib.hid fun _ => rfl), k4, k5, k6, (Lib.hid fun hl => ?_), k9, q8, ⟨HW.out.1.by hb, HW.out.2.trans (hb.mono HW.out.2.size)⟩⟩
      · obtain ⟨gg, eg, lg, hg⟩ := k7.out hl
        exact ⟨gg, eg, lg, hg.by hb⟩
    · -- operation 4
      obtain rfl := k3.out (hd 3 (by decide))
      have HW := Lib.hid hW
      clear hW hL hd
      refine wpOp_step rfl fun K hK => ?_
      go_simp
      refine hK _ _ ⟨_, _, _, _, _, _, _, _, _, rfl, k0, k1, k2, k3, (Lib.hid fun _ => rfl), k5, k6, k7, k9, q8, HW.out⟩
    · -- operation 5
      obtain rfl := k4.out (hd 4 (by decide))
      have HW := Lib.hid hW
      clear hW hL hd
      refine wpOp_step rfl fun K hK => ?_
      go_simp
      refine hK _ _ ⟨_, _, _, _, _, _, _, _, _, rfl, k0, k1, k2, k3, k4, (Lib.hid fun _ => rfl), k6, k7, k9, q8, HW.out⟩
    · -- operation 6
      obtain rfl := k4.out (hd 4 (by decide))
      have HW := Lib.hid hW
      clear hW hL hd
      refine wpOp_step rfl fun K hK => ?_
      go_simp
      refine hK _ _ ⟨_, _, _, _, _, _, _, _, _, rfl, k0, k1, k2, k3, k4, k5, (Lib.hid fun _ => rfl), k7, k9, q8, HW.out⟩
    · -- operation 7
      have hLs : L 8 = false := by
        cases hc : L 8 with
        | false => rfl
        | true => exact absurd (q8.out hc) (by rw [hL]; decide)
      have HW := Lib.hid hW
      clear hW hL hd
      refine wpOp_step rfl fun K hK => ?_
      go_simp
      refine hK _ _ ⟨_, _, _, _, _, _, _, _, _, rfl, k0, k1, k2, k3, k4, k5, k6, (Lib.hid fun _ => ⟨_, rfl, (by have := HW.out.1.lt; omega), At.bif_false hLs (At.new _ _ _)⟩), k9, (Lib.hid fun _ => rfl), ⟨HW.out.1.by ((Below.refl _ _).alloc (Nat.le_refl _) _), HW.out.2.trans (((Below.refl _ _).alloc (Nat.le_refl _) _).mono HW.out.2.size)⟩⟩
    · -- operation 8
      obtain rfl := k5.out (hd 5 (by decide))
      obtain ⟨gg, rfl, lg, hg⟩ := k7.out (hd 7 (by decide))
      have hda := hd 7 (by decide)
      rw [hL] at hg
      dsimp only [cond_false] at hg
      obtain ⟨⟨c0, c1, c2, c3⟩, z0, z1, z2, z3⟩ := hg.four
      have HG := Lib.hid hg
      clear hg
      have HW := Lib.hid hW
      clear hW hL hd
      refine wpOp_step rfl fun K hK => ?_
      go_simp
      refine hK _ _ ⟨_, _, _, _, _, _, _, _, _, rfl, k0, k1, k2, k3, k4, k5, k6, (Lib.hid fun _ => ⟨gg, rfl, lg, HG.out.set4 _ _ _ _⟩), k9, (Lib.hid fun _ => hda), ⟨HW.out.1.far4 (by omega) _ _ _ _, below_set4 HW.out.2 (by omega) _ _ _ _⟩⟩
    · -- operation 9
      obtain rfl := k6.out (hd 6 (by decide))
      have HW := Lib.hid hW
      clear hW hL hd
      refine wpOp_step rfl fun K hK => ?_
      go_simp
      refine hK _ _ ⟨_, _, _, _, _, _, _, _, _, rfl, k0, k1, k2, k3, k4, k5, k6, k7, (Lib.hid fun _ => rfl), q8, HW.out⟩
  intro L a' u hI hall
  obtain ⟨v16, v17, v23, v24, v25, v26, v27, v28, v29, rfl, k0, k1, k2, k3, k4, k5, k6, k7, k9, q8, hW⟩ := hI
  obtain ⟨g16, e16, l16, h16⟩ := k7.out (hall 7 (by decide))
  obtain rfl := k0.out (hall 0 (by decide))
  obtain rfl := k1.out (hall 1 (by decide))
  obtain rfl := k2.out (hall 2 (by decide))
  obtain rfl := k3.out (hall 3 (by decide))
  obtain rfl := k4.out (hall 4 (by decide))
  obtain rfl := k5.out (hall 5 (by decide))
  obtain rfl := k6.out (hall 6 (by decide))
  obtain rfl := k9.out (hall 9 (by decide))
  subst e16
  rw [show L 8 = true from (hall 8 (by decide))] at h16
  dsimp only [cond_true] at h16
  clear k0 k1 k2 k3 k4 k5 k6 k7 k9 q8 hall
  show wpOps _ _ _ [] _ _
  unfold wpOps
  dsimp only
  obtain ⟨w2, hw2⟩ : ∃ w2, w2 = u := ⟨_, rfl⟩
  rw [← hw2] at h16 hW ⊢
  clear hw2
  obtain ⟨h15, hB12⟩ := hW
  have HB2 := Lib.hid (HB1.out.trans (hB12.mono HB1.out.size))
  have HA := Lib.hid (And.intro h15 h16)
  obtain ⟨g15, hg15⟩ : ∃ g15, g15 = w1.heap.size := ⟨_, rfl⟩
  rw [← hg15] at HA ⊢
  clear h15 h16 hB12 l16 HB1 HL H HM hg15
  go_wp2_with fail
  refine (HS.out _ (HH.out.1.below (Nat.le_refl _) HB2.out) (HH.out.2.1.below (Nat.le_refl _) HB2.out) (HH.out.2.2.1.below (Nat.le_refl _) HB2.out) (HH.out.2.2.2.1.below (Nat.le_refl _) HB2.out) (HH.out.2.2.2.2.by HB2.out)).mono ?_
  rintro _ w3 ⟨v18, rfl, ho3, hb3⟩
  obtain ⟨A18, c18, rfl, hS18⟩ := ho3.form
  have HA3 := Lib.hid (And.intro (HA.out.1.by hb3) (HA.out.2.by hb3))
  have HB3 := Lib.hid (HB2.out.trans (hb3.mono HB2.out.size))
  have HO3 := Lib.hid (And.intro ho3 hS18)
  have hsz : w.heap.size ≤ w2.heap.size := HB2.out.size
  clear ho3 hS18 hb3 HB2 HA HS HH
  obtain ⟨⟨y0, y1, y2, y3⟩, -⟩ := HA3.out.1.four
  obtain ⟨⟨x0, x1, x2, x3⟩, -⟩ := HA3.out.2.four
  obtain ⟨n1', hn1'⟩ : ∃ b, nearAll m l = b := ⟨_, rfl⟩
  obtain ⟨n2', hn2'⟩ : ∃ b, nearAll ⟨e, f, g, h⟩ [] = b := ⟨_, rfl⟩
  have HN1 := Lib.hid hn1'
  have HN2 := Lib.hid hn2'
  clear hn1' hn2'
  go_wp2_with fail
  have hsm := small_any m.x0 m.y0 m.x1 m.y1 A18 c18 l w3 HO3.out.2 (by omega)
  rw [show nearAll ⟨m.x0, m.y0, m.x1, m.y1⟩ l = n1' from HN1.out] at hsm
  refine hsm.mono ?_
  clear hsm
  rintro _ w4 ⟨rfl, hb4⟩
  have HA4 := Lib.hid (And.intro (HA3.out.1.by hb4) (HA3.out.2.by hb4))
  have HB4 := Lib.hid (HB3.out.trans (hb4.mono HB3.out.size))
  have HO4 := Lib.hid (HO3.out.1.by hb4)
  clear hb4 HB3 HA3 HO3 y0 y1 y2 y3 x0 x1 x2 x3
  cases n1' with
  | false =>
    go_wp2
    go_ret
    exact ⟨rfl, HB4.out⟩
  | true =>
  obtain ⟨⟨y0, y1, y2, y3⟩, -⟩ := HA4.out.1.four
  go_wp2_with fail
  have hsm := small_any e f g h none 0 [] w4 (fun h0 => by simp at h0) (by simp)
  rw [HN2.out] at hsm
  refine hsm.mono ?_
  clear hsm
  rintro _ w5 ⟨rfl, hb5⟩
  have HA5 := Lib.hid (And.intro (HA4.out.1.by hb5) (HA4.out.2.by hb5))
  have HB5 := Lib.hid (HB4.out.trans (hb5.mono HB4.out.size))
  have HO5 := Lib.hid (HO4.out.by hb5)
  clear hb5 HB4 HA4 HO4 y0 y1 y2 y3
  cases n2' with
  | false =>
    go_wp2
    go_ret
    exact ⟨rfl, HB5.out⟩
  | true =>
  go_wp2
  go_loopw [49] (fun i wr => ∃ k : Nat, k ≤ l.length ∧ i = .int .i64 k ∧ OwnS wr w2.heap.size (.slice A18 l.length c18) (tameTo l k) ∧ (At wr g15 25 [.int .i64 e, .int .i64 f, .int .i64 g, .int .i64 h] ∧ At wr g16 25 [.int .i64 m.x0, .int .i64 m.y0, .int .i64 m.x1, .int .i64 m.y1]) ∧ Below w.heap.size w wr) (fun i _ => l.length - (intOf i).toNat)
  case atStart => exact ⟨0, Nat.zero_le _, rfl, by rw [tameTo_zero]; exact HO5.out, HA5.out, HB5.out⟩
  case round =>
    obtain ⟨k, hk, rfl, hown, hat, hbel⟩ := hrel
    by_cases hlt : k < l.length
    · obtain ⟨A', c', e1, hst⟩ := hown.form
      injection e1 with e1 _ e3
      subst e1 e3
      obtain ⟨gs, os, rfl, hgs, y0, y1, y2, y3, y4, y5, y6, y7⟩ := hst.at_ (i := k) (by rw [tameTo_length]; exact hlt)
      obtain ⟨rfl, -, hbase, -⟩ := hown.open_
      have hset := hown.setop (k := k) (by rw [tameTo_length]; exact hlt) (-1)
      have hsuc := tameTo_succ l k hlt
      have hfz : wr.frozen? ⟨gs, k * 8, none⟩ = false := hown.frozen
      have hne1 := hown.ne hat.1 (by decide)
      have hne2 := hown.ne hat.2 (by decide)
      have hsame : (tameTo l k).set k l[k] = tameTo l k := by
        have h := tameTo_get l k hlt
        rw [← h]
        exact List.set_getElem_self _
      rw [tameTo_get l k hlt] at y0 y1 y2 y3 y4 y5 y6 y7 hset
      generalize l[k] = s at y0 y1 y2 y3 y4 y5 y6 y7 hset hsuc hsame
      obtain ⟨op, px, py, n', ⟨e', f', g', h'⟩⟩ := s
      dsimp only at y0 y1 y2 y3 y4 y5 y6 y7 hset
      have HO := Lib.hid hown
      have HSET := Lib.hid hset
      have HSUC := Lib.hid hsuc
      have HSAME := Lib.hid hsame
      have HA := Lib.hid hat
      have HB := Lib.hid hbel
      have HNE := Lib.hid (And.intro hne1 hne2)
      have HBS := Lib.hid (hbel.setCell (p := ⟨gs, k * 8, none⟩) (show w.heap.size ≤ gs by omega) (.int .i64 (-1)))
      clear hown hst hset hsuc hsame hat hbel hne1 hne2
      simp only [Nat.zero_add] at y0 y1 y2 y3 y4 y5 y6 y7
      by_cases q3 : op = 3
      · subst q3
        go_wp2
        go_roundw
        case rel =>
          refine ⟨k + 1, by omega, by go_num, ?_, ⟨(HA.out.1.far HNE.out.1 _).alloc _, (HA.out.2.far HNE.out.2 _).alloc _⟩, HBS.out.alloc HBS.out.size _⟩
          rw [HSUC.out, show S.tame ⟨3, px, py, n', ⟨e', f', g', h'⟩⟩ = S.as ⟨3, px, py, n', ⟨e', f', g', h'⟩⟩ (-1) from if_pos (.inl rfl)]
          exact HSET.out.alloc _
        case measure => simp [intOf]; omega
      by_cases q2 : op = 2
      · subst q2
        by_cases qn : n' < 0
        · have qb : decide (n' < 0) = true := decide_eq_true qn
          go_wp2
          go_roundw
          case rel =>
            refine ⟨k + 1, by omega, by go_num, ?_, ⟨(HA.out.1.far HNE.out.1 _).alloc _, (HA.out.2.far HNE.out.2 _).alloc _⟩, HBS.out.alloc HBS.out.size _⟩
            rw [HSUC.out, show S.tame ⟨2, px, py, n', ⟨e', f', g', h'⟩⟩ = S.as ⟨2, px, py, n', ⟨e', f', g', h'⟩⟩ (-1) from if_pos (.inr ⟨rfl, qn⟩)]
            exact HSET.out.alloc _
          case measure => simp [intOf]; omega
        · have qb : decide (n' < 0) = false := decide_eq_false qn
          go_wp2
          go_roundw
          case rel =>
            refine ⟨k + 1, by omega, by go_num, ?_, ⟨HA.out.1.alloc _, HA.out.2.alloc _⟩, HB.out.alloc HB.out.size _⟩
            rw [HSUC.out, show S.tame ⟨2, px, py, n', ⟨e', f', g', h'⟩⟩ = ⟨2, px, py, n', ⟨e', f', g', h'⟩⟩ from if_neg (fun h => h.elim (fun h => by cases h) (fun h => qn h.2)), HSAME.out]
            exact HO.out.alloc _
          case measure => simp [intOf]; omega
      · have qa : (op == 3) = false := beq_eq_false_iff_ne.2 q3
        have qb : (op == 2) = false := beq_eq_false_iff_ne.2 q2
        go_wp2
        go_roundw
        case rel =>
          refine ⟨k + 1, by omega, by go_num, ?_, ⟨HA.out.1.alloc _, HA.out.2.alloc _⟩, HB.out.alloc HB.out.size _⟩
          rw [HSUC.out, show S.tame ⟨op, px, py, n', ⟨e', f', g', h'⟩⟩ = ⟨op, px, py, n', ⟨e', f', g', h'⟩⟩ from if_neg (fun h => h.elim q3 (fun h => q2 h.1)), HSAME.out]
          exact HO.out.alloc _
        case measure => simp [intOf]; omega
    · obtain rfl : k = l.length := by omega
      obtain ⟨mm, hmm⟩ : ∃ mm, mm = l.map S.tame := ⟨_, rfl⟩
      rw [tameTo_all, ← hmm] at hown
      have hml : mm.length = l.length := by rw [hmm, List.length_map]
      obtain ⟨A', c', e1, hst⟩ := hown.form
      injection e1 with e1 _ e3
      subst e1 e3
      have hco := compared_any m.x0 m.y0 m.x1 m.y1 e f g h A18 A18 c18 c18 mm mm 38 #[] wr hst hst (by omega) rfl (fun _ _ => by kernel_rfl) (by
        intro v _ i _ p q s t p' q' s' t' e1 e2
        have e3 := mono_take HN1.out HN2.out HSUB.out (i + 1)
        rw [← hmm] at e3
        rw [show runS m (mm.take (i + 1)) = _ from e1, e2] at e3
        rw [Array.append_empty]
        exact mono1_any _ _ _ _ _ _ _ _ _ e3)
      obtain ⟨⟨y0, y1, y2, y3⟩, -⟩ := hat.1.four
      obtain ⟨⟨x0, x1, x2, x3⟩, -⟩ := hat.2.four
      have HCO := Lib.hid hco
      have HB := Lib.hid hbel
      clear hco hown hst hat hbel hmm hml
      go_wp2_with fail
      refine HCO.out.mono ?_
      rintro _ w6 ⟨rfl, hb6⟩
      have HB6 := Lib.hid (HB.out.trans (hb6.mono HB.out.size))
      clear hb6 y0 y1 y2 y3 x0 x1 x2 x3
      go_wp2
      go_ret
      exact ⟨rfl, HB6.out⟩
end Go.Proofs.Ytenhhkeajhkfoaa
