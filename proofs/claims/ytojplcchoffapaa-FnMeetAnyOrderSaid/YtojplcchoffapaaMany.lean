/- The walk of FnMeetAnyOrder. Conditions: at most 5864062014634 rows and numbers of the order. -/
import Derived.Test.YtojplcchoffapaaJoin
import Derived.Test.YtojplcchoffapaaMixed
import Derived.Test.YtojplcchoffapaaPlainPerm
import Derived.Test.YtojplcchoffapaaHas
import Derived.Test.YtojplcchoffapaaSpots
namespace Go.Proofs.Ytojplcchoffapaa
open Go.RowKit

def tab_many5e : List (List Nat) := [[], [0], [0, 1], [0, 1, 2], [0, 1, 2, 3], [0, 1, 2, 3], [0, 1, 2, 3, 5], [0, 1, 2, 3, 5, 6], [0, 1, 2, 3, 4, 5, 6, 7], [0, 1, 2, 3, 4, 5, 6, 7, 8], [0, 1, 2, 3], [0, 1, 2, 3], [0, 1, 2, 3, 11], [0, 1, 2, 3, 11, 12], [0, 1, 2, 3, 10, 11, 12, 13], [0, 1, 2, 3, 10, 11, 12, 13, 14], [0, 1, 2, 3, 4, 5, 6, 7, 8, 9, 10, 11, 12, 13, 14, 15], [0, 1, 2, 3, 4, 5, 6, 7, 8, 9, 10, 11, 12, 13, 14, 15, 16], [0, 1, 2, 3, 4, 5, 6, 7, 8, 9, 10, 11, 12, 13, 14, 15, 16, 17]]
set_option maxRecDepth 10000 in
set_option maxHeartbeats 8000000 in
theorem many_walk (A A1 : Option Addr) (n c n1 c1 : Nat) (z : List (List Int)) (z1 : List Int) (w : World)
    (h : RowsAt w A n z) (h1 : Ints w A1 n1 z1) (hn : n ≤ 5864062014634) (hn1 : n1 ≤ 17592186044414) :
    Calls Try.prog 10 #[.slice A n c, .slice A1 n1 c1] w fun e w' => e = .returned (.bool true) ∧ Below w.heap.size w w' := by
  have R1 := fun u hu => rects_any A n c z u hu hn
  obtain ⟨l, hl⟩ : ∃ l, z.map rectOf = l := ⟨_, rfl⟩
  have hlen : l.length ≤ 5864062014634 := by rw [← hl, List.length_map, h.1]; exact hn
  rw [hl] at R1
  have HR := Lib.hid R1
  have H := Lib.hid (And.intro h h1)
  clear R1 h h1 hl
  go_enter Try.func10, Try.ntmps10
  go_wp2_with fail
  refine (HR.out _ H.out.1).mono ?_
  rintro _ w1 ⟨v5, rfl, ho5, hb1⟩
  obtain ⟨A5, c5, rfl, hR5, hc5⟩ := ho5.form'
  obtain ⟨M, hM⟩ : ∃ M, l.length = M := ⟨_, rfl⟩
  have J1' := fun u hu => meet_any A5 c5 l u hu (by omega)
  have X1' := fun u hu hz => mixed_any A5 A1 c5 n1 c1 l z1 u hu hc5 hz hlen hn1
  rw [hM] at J1' X1' hlen ⊢
  have HJ := Lib.hid J1'
  have HX := Lib.hid X1'
  have HR5 := Lib.hid hR5
  have HB1 := Lib.hid hb1
  have HM := Lib.hid hM
  clear ho5 hR5 hb1 HR J1' X1' hM
  go_wp2_with fail
  refine (HJ.out _ HR5.out).mono ?_
  rintro _ w2 ⟨v6, rfl, ho6, hb2⟩
  obtain ⟨A6, c6, rfl, hR6⟩ := ho6.form
  rw [accs_length]
  have HR6 := Lib.hid hR6
  have HB2 := Lib.hid (HB1.out.trans (hb2.mono HB1.out.size))
  have HR52 := Lib.hid (HR5.out.by hb2)
  clear ho6 hR6 hb2 HR5 HB1 HJ
  go_wp2_with fail
  refine (HX.out _ HR52.out (H.out.2.below (Nat.le_refl _) HB2.out)).mono ?_
  rintro _ w3 ⟨v14, m, rfl, hperm, ho14, hb3⟩
  have hml : m.length = M := hperm.length_eq.trans HM.out
  obtain ⟨A14, c14, rfl, hR14⟩ := ho14.form
  have J2' := meet_any A14 c14 m w3 hR14 (by omega)
  rw [hml] at J2' ⊢
  have HJ2 := Lib.hid J2'
  have HR63 := Lib.hid (HR6.out.by hb3)
  have HB3 := Lib.hid (HB2.out.trans (hb3.mono HB2.out.size))
  have HP := Lib.hid (And.intro hperm hml)
  clear hperm hml ho14 hb3 hR14 J2' HX HR6 HB2 HR52 H
  go_wp2_with fail
  refine HJ2.out.mono ?_
  rintro _ w4 ⟨v7, rfl, ho7, hb4⟩
  obtain ⟨A7, c7, rfl, hR7⟩ := ho7.form
  rw [accs_length]
  have HRR := Lib.hid (And.intro (HR63.out.by hb4) hR7)
  have HB4 := Lib.hid (HB3.out.trans (hb4.mono HB3.out.size))
  clear ho7 hb4 hR7 HR63 HB3 HJ2
  go_wp2_with fail
  by_cases h0 : M = 0
  · have b0 : ((M : Int) == 0) = true := by rw [h0]; rfl
    have b1 : (M == 0) = true := by rw [h0]; rfl
    clear h0
    refine from_table tab_many5e (by kernel_rfl) (by kernel_rfl) (by kernel_rfl) (by kernel_rfl) fun hTab => ?_
    refine from_gen (fun u => Below w4.heap.size w4 u) ?_ ?_
    · exact (Below.refl _ _).drew
    intro u hW
    -- operation 0 alone
    refine from_one' hTab 0 (by kernel_rfl) ?_
    have HW := Lib.hid hW
    clear hW
    refine wpOp_step rfl fun K hK => ?_
    go_simp
    refine hK _ _ ?_
    clear hK K
    have hW := HW.out
    clear HW
    -- operation 1 alone
    refine from_one' hTab 1 (by kernel_rfl) ?_
    have HW := Lib.hid hW
    clear hW
    refine wpOp_step rfl fun K hK => ?_
    go_simp
    refine hK _ _ ?_
    clear hK K
    have hW := HW.out
    clear HW
    -- operation 2 alone
    refine from_one' hTab 2 (by kernel_rfl) ?_
    have HW := Lib.hid hW
    clear hW
    refine wpOp_step rfl fun K hK => ?_
    go_simp
    refine hK _ _ ?_
    clear hK K
    have hW := HW.out
    clear HW
    -- operation 3 alone
    refine from_one' hTab 3 (by kernel_rfl) ?_
    have HW := Lib.hid hW
    clear hW
    refine wpOp_step rfl fun K hK => ?_
    go_simp
    refine hK _ _ ?_
    clear hK K
    have hW := HW.out
    clear HW
    -- operations 4 to 15
    refine from_block' hTab 4 16 (by decide) (by kernel_rfl)
      (fun L a' u => ∃ v32 v33 v34 v35 v36 v37 v38 v39 v40 v41 v42 v43 : Value, a' = ⟨#[Value.slice A n c, Value.slice A1 n1 c1, undef, undef, .bool false, Value.slice A5 M c5, Value.slice A6 M c6, Value.slice A7 M c7, Value.slice A n c, Value.slice A5 M c5, Value.slice A5 M c5, Value.slice A6 M c6, Value.slice A5 M c5, Value.slice A1 n1 c1, Value.slice A14 M c14, Value.slice A7 M c7, Value.slice A6 M c6, .int .i64 ↑M, Value.slice A5 M c5, .int .i64 ↑M, .bool false, .bool false, Value.slice A7 M c7, .int .i64 ↑M, Value.slice A5 M c5, .int .i64 ↑M, .bool false, .bool false, Value.slice A5 M c5, .int .i64 ↑M, .bool true, .bool true, v32, v33, v34, v35, v36, v37, v38, v39, v40, v41, v42, v43, undef, undef], []⟩ ∧
        Hid (L 4 = true → v32 = undef) ∧ Hid (L 5 = true → v33 = undef) ∧ Hid (L 6 = true → v34 = undef) ∧ Hid (L 7 = true → v35 = undef) ∧ Hid (L 8 = true → v36 = undef) ∧ Hid (L 9 = true → v37 = undef) ∧ Hid (L 10 = true → v38 = undef) ∧ Hid (L 11 = true → v39 = undef) ∧ Hid (L 12 = true → v40 = undef) ∧ Hid (L 13 = true → v41 = undef) ∧ Hid (L 14 = true → v42 = undef) ∧ Hid (L 15 = true → v43 = undef) ∧ (Below w4.heap.size w4 u)) ?_ ?_ ?_
    · exact ⟨_, _, _, _, _, _, _, _, _, _, _, _, rfl, (Lib.hid fun h => by cases h), (Lib.hid fun h => by cases h), (Lib.hid fun h => by cases h), (Lib.hid fun h => by cases h), (Lib.hid fun h => by cases h), (Lib.hid fun h => by cases h), (Lib.hid fun h => by cases h), (Lib.hid fun h => by cases h), (Lib.hid fun h => by cases h), (Lib.hid fun h => by cases h), (Lib.hid fun h => by cases h), (Lib.hid fun h => by cases h), hW⟩
    · clear hW
      intro L a' u i hi1 hi2 hI hL hd
      obtain ⟨v32, v33, v34, v35, v36, v37, v38, v39, v40, v41, v42, v43, rfl, k4, k5, k6, k7, k8, k9, k10, k11, k12, k13, k14, k15, hW⟩ := hI
      obtain rfl | rfl | rfl | rfl | rfl | rfl | rfl | rfl | rfl | rfl | rfl | rfl := (show ∀ i : Nat, 4 ≤ i → i < 16 → (i = 4 ∨ i = 5 ∨ i = 6 ∨ i = 7 ∨ i = 8 ∨ i = 9 ∨ i = 10 ∨ i = 11 ∨ i = 12 ∨ i = 13 ∨ i = 14 ∨ i = 15) by omega) i hi1 hi2
      · -- operation 4
        have HW := Lib.hid hW
        clear hW hL hd hi1 hi2
        refine wpOp_step rfl fun K hK => ?_
        go_simp
        refine hK _ _ ⟨_, _, _, _, _, _, _, _, _, _, _, _, rfl, (Lib.hid fun _ => rfl), k5, k6, k7, k8, k9, k10, k11, k12, k13, k14, k15, HW.out⟩
      · -- operation 5
        have HW := Lib.hid hW
        clear hW hL hd hi1 hi2
        refine wpOp_step rfl fun K hK => ?_
        go_simp
        refine hK _ _ ⟨_, _, _, _, _, _, _, _, _, _, _, _, rfl, k4, (Lib.hid fun _ => rfl), k6, k7, k8, k9, k10, k11, k12, k13, k14, k15, HW.out⟩
      · -- operation 6
        obtain rfl := k5.out (hd 5 (by decide))
        have HW := Lib.hid hW
        clear hW hL hd hi1 hi2
        refine wpOp_step rfl fun K hK => ?_
        go_simp
        refine hK _ _ ⟨_, _, _, _, _, _, _, _, _, _, _, _, rfl, k4, k5, (Lib.hid fun _ => rfl), k7, k8, k9, k10, k11, k12, k13, k14, k15, HW.out⟩
      · -- operation 7
        obtain rfl := k6.out (hd 6 (by decide))
        have HW := Lib.hid hW
        clear hW hL hd hi1 hi2
        refine wpOp_step rfl fun K hK => ?_
        go_simp
        refine hK _ _ ⟨_, _, _, _, _, _, _, _, _, _, _, _, rfl, k4, k5, k6, (Lib.hid fun _ => rfl), k8, k9, k10, k11, k12, k13, k14, k15, HW.out⟩
      · -- operation 8
        obtain rfl := k4.out (hd 4 (by decide))
        obtain rfl := k7.out (hd 7 (by decide))
        have HW := Lib.hid hW
        clear hW hL hd hi1 hi2
        refine wpOp_step rfl fun K hK => ?_
        go_simp
        refine hK _ _ ⟨_, _, _, _, _, _, _, _, _, _, _, _, rfl, k4, k5, k6, k7, (Lib.hid fun _ => rfl), k9, k10, k11, k12, k13, k14, k15, HW.out⟩
      · -- operation 9
        obtain rfl := k8.out (hd 8 (by decide))
        have HW := Lib.hid hW
        clear hW hL hd hi1 hi2
        refine wpOp_step rfl fun K hK => ?_
        go_simp
        refine hK _ _ ⟨_, _, _, _, _, _, _, _, _, _, _, _, rfl, k4, k5, k6, k7, k8, (Lib.hid fun _ => rfl), k10, k11, k12, k13, k14, k15, HW.out⟩
      · -- operation 10
        have HW := Lib.hid hW
        clear hW hL hd hi1 hi2
        refine wpOp_step rfl fun K hK => ?_
        go_simp
        refine hK _ _ ⟨_, _, _, _, _, _, _, _, _, _, _, _, rfl, k4, k5, k6, k7, k8, k9, (Lib.hid fun _ => rfl), k11, k12, k13, k14, k15, HW.out⟩
      · -- operation 11
        have HW := Lib.hid hW
        clear hW hL hd hi1 hi2
        refine wpOp_step rfl fun K hK => ?_
        go_simp
        refine hK _ _ ⟨_, _, _, _, _, _, _, _, _, _, _, _, rfl, k4, k5, k6, k7, k8, k9, k10, (Lib.hid fun _ => rfl), k12, k13, k14, k15, HW.out⟩
      · -- operation 12
        obtain rfl := k11.out (hd 11 (by decide))
        have HW := Lib.hid hW
        clear hW hL hd hi1 hi2
        refine wpOp_step rfl fun K hK => ?_
        go_simp
        refine hK _ _ ⟨_, _, _, _, _, _, _, _, _, _, _, _, rfl, k4, k5, k6, k7, k8, k9, k10, k11, (Lib.hid fun _ => rfl), k13, k14, k15, HW.out⟩
      · -- operation 13
        obtain rfl := k12.out (hd 12 (by decide))
        have HW := Lib.hid hW
        clear hW hL hd hi1 hi2
        refine wpOp_step rfl fun K hK => ?_
        go_simp
        refine hK _ _ ⟨_, _, _, _, _, _, _, _, _, _, _, _, rfl, k4, k5, k6, k7, k8, k9, k10, k11, k12, (Lib.hid fun _ => rfl), k14, k15, HW.out⟩
      · -- operation 14
        obtain rfl := k10.out (hd 10 (by decide))
        obtain rfl := k13.out (hd 13 (by decide))
        have HW := Lib.hid hW
        clear hW hL hd hi1 hi2
        refine wpOp_step rfl fun K hK => ?_
        go_simp
        refine hK _ _ ⟨_, _, _, _, _, _, _, _, _, _, _, _, rfl, k4, k5, k6, k7, k8, k9, k10, k11, k12, k13, (Lib.hid fun _ => rfl), k15, HW.out⟩
      · -- operation 15
        obtain rfl := k14.out (hd 14 (by decide))
        have HW := Lib.hid hW
        clear hW hL hd hi1 hi2
        refine wpOp_step rfl fun K hK => ?_
        go_simp
        refine hK _ _ ⟨_, _, _, _, _, _, _, _, _, _, _, _, rfl, k4, k5, k6, k7, k8, k9, k10, k11, k12, k13, k14, (Lib.hid fun _ => rfl), HW.out⟩
    clear hW
    clear u
    intro L a' u hI hall
    obtain ⟨v32, v33, v34, v35, v36, v37, v38, v39, v40, v41, v42, v43, rfl, k4, k5, k6, k7, k8, k9, k10, k11, k12, k13, k14, k15, hW⟩ := hI
    obtain rfl := k4.out (hall 4 (by decide))
    obtain rfl := k5.out (hall 5 (by decide))
    obtain rfl := k6.out (hall 6 (by decide))
    obtain rfl := k7.out (hall 7 (by decide))
    obtain rfl := k8.out (hall 8 (by decide))
    obtain rfl := k9.out (hall 9 (by decide))
    obtain rfl := k10.out (hall 10 (by decide))
    obtain rfl := k11.out (hall 11 (by decide))
    obtain rfl := k12.out (hall 12 (by decide))
    obtain rfl := k13.out (hall 13 (by decide))
    obtain rfl := k14.out (hall 14 (by decide))
    obtain rfl := k15.out (hall 15 (by decide))
    clear k4 k5 k6 k7 k8 k9 k10 k11 k12 k13 k14 k15 hall L
    -- operation 16 alone
    refine from_one' hTab 16 (by kernel_rfl) ?_
    have HW := Lib.hid hW
    clear hW
    refine wpOp_step rfl fun K hK => ?_
    go_simp
    refine hK _ _ ?_
    clear hK K
    have hW := HW.out
    clear HW
    -- operation 17 alone
    refine from_one' hTab 17 (by kernel_rfl) ?_
    have HW := Lib.hid hW
    clear hW
    refine wpOp_step rfl fun K hK => ?_
    go_simp
    refine hK _ _ ?_
    clear hK K
    have hW := HW.out
    clear HW
    -- operation 18 alone
    refine from_one' hTab 18 (by kernel_rfl) ?_
    have HW := Lib.hid hW
    clear hW
    refine wpOp_step rfl fun K hK => ?_
    go_simp
    refine hK _ _ ?_
    clear hK K
    have hW := HW.out
    clear HW
    refine from_end' hTab 19 (by kernel_rfl) ?_
    clear hTab
    have HW := Lib.hid hW
    clear hW
    go_wp2
    go_ret
    exact ⟨rfl, HB4.out.trans (HW.out.mono HB4.out.size)⟩
  · have b0 : ((M : Int) == 0) = false := beq_eq_false_iff_ne.2 (by omega)
    have b1 : (M == 0) = false := beq_eq_false_iff_ne.2 h0
    have x1 : IntKind.i64.wrap ((M : Int) - 1) = (M : Int) - 1 := IntWalk.i64_in _ (by omega)
    have x2 : 0 ≤ (M : Int) - 1 := by omega
    have x3 : (M : Int) - 1 < M := by omega
    have x4 : ((M : Int) - 1).toNat = M - 1 := by omega
    have x5 : 1 ≤ (M : Int) := by omega
    have x6 : 1 ≤ M := by omega
    obtain ⟨g6, o6, rfl, hg6⟩ := HRR.out.1.addr (by rw [accs_length]; omega)
    obtain ⟨g7, o7, rfl, hg7⟩ := HRR.out.2.addr (by rw [accs_length]; omega)
    obtain ⟨⟨p, q, s, t⟩, hv1⟩ : ∃ v : R, acc inter l = v := ⟨_, rfl⟩
    obtain ⟨⟨p', q', s', t'⟩, hv2⟩ : ∃ v : R, acc inter m = v := ⟨_, rfl⟩
    have hlaw := meet_perm HP.out.1 (by rw [HM.out]; omega)
    rw [hv1, hv2] at hlaw
    have m1 := (accs_get inter l M (M - 1) (by omega)).trans (show acc inter (l.take (M - 1 + 1)) = ⟨p, q, s, t⟩ by rw [show M - 1 + 1 = M by omega, List.take_of_length_le (by rw [HM.out]; exact Nat.le_refl _)]; exact hv1)
    have m2 := (accs_get inter m M (M - 1) (by omega)).trans (show acc inter (m.take (M - 1 + 1)) = ⟨p', q', s', t'⟩ by rw [show M - 1 + 1 = M by omega, List.take_of_length_le (by rw [HP.out.2]; exact Nat.le_refl _)]; exact hv2)
    have HF := Lib.hid (And.intro (HRR.out.1.four (i := M - 1) (by rw [accs_length]; omega) m1 hg6) (HRR.out.2.four (i := M - 1) (by rw [accs_length]; omega) m2 hg7))
    have hsame := fun u => lsame_any p q s t p' q' s' t' u
    rw [show sameB p q s t p' q' s' t' = true from hlaw] at hsame
    have HSA := Lib.hid hsame
    clear hlaw hv1 hv2 m1 m2 hg6 hg7 hsame HRR h0
    refine from_table tab_many5e (by kernel_rfl) (by kernel_rfl) (by kernel_rfl) (by kernel_rfl) fun hTab => ?_
    refine from_gen (fun u => Below w4.heap.size w4 u) ?_ ?_
    · exact (Below.refl _ _).drew
    intro u hW
    -- operation 0 alone
    refine from_one' hTab 0 (by kernel_rfl) ?_
    have HW := Lib.hid hW
    clear hW
    refine wpOp_step rfl fun K hK => ?_
    go_simp
    refine hK _ _ ?_
    clear hK K
    have hW := HW.out
    clear HW
    -- operation 1 alone
    refine from_one' hTab 1 (by kernel_rfl) ?_
    have HW := Lib.hid hW
    clear hW
    refine wpOp_step rfl fun K hK => ?_
    go_simp
    refine hK _ _ ?_
    clear hK K
    have hW := HW.out
    clear HW
    -- operation 2 alone
    refine from_one' hTab 2 (by kernel_rfl) ?_
    have HW := Lib.hid hW
    clear hW
    refine wpOp_step rfl fun K hK => ?_
    go_simp
    refine hK _ _ ?_
    clear hK K
    have hW := HW.out
    clear HW
    -- operation 3 alone
    refine from_one' hTab 3 (by kernel_rfl) ?_
    have HW := Lib.hid hW
    clear hW
    refine wpOp_step rfl fun K hK => ?_
    go_simp
    refine hK _ _ ?_
    clear hK K
    have hW := HW.out
    clear HW
    -- operations 4 to 15
    refine from_block' hTab 4 16 (by decide) (by kernel_rfl)
      (fun L a' u => ∃ v32 v33 v34 v35 v36 v37 v38 v39 v40 v41 v42 v43 : Value, a' = ⟨#[Value.slice A n c, Value.slice A1 n1 c1, undef, undef, .bool false, Value.slice A5 M c5, .slice (some ⟨g6, o6, none⟩) M c6, .slice (some ⟨g7, o7, none⟩) M c7, Value.slice A n c, Value.slice A5 M c5, Value.slice A5 M c5, .slice (some ⟨g6, o6, none⟩) M c6, Value.slice A5 M c5, Value.slice A1 n1 c1, Value.slice A14 M c14, .slice (some ⟨g7, o7, none⟩) M c7, .slice (some ⟨g6, o6, none⟩) M c6, .int .i64 ↑M, Value.slice A5 M c5, .int .i64 ↑M, .bool false, .bool false, .slice (some ⟨g7, o7, none⟩) M c7, .int .i64 ↑M, Value.slice A5 M c5, .int .i64 ↑M, .bool false, .bool false, Value.slice A5 M c5, .int .i64 ↑M, .bool false, .bool false, v32, v33, v34, v35, v36, v37, v38, v39, v40, v41, v42, v43, undef, undef], []⟩ ∧
        Hid (L 4 = true → v32 = .slice (some ⟨g6, o6, none⟩) M c6) ∧ Hid (L 5 = true → v33 = .slice (some ⟨g6, o6, none⟩) M c6) ∧ Hid (L 6 = true → v34 = .int .i64 ↑M) ∧ Hid (L 7 = true → v35 = .int .i64 (↑M - 1)) ∧ Hid (L 8 = true → v36 = .pointer (some ⟨g6, o6 + (M - 1) * 4, none⟩)) ∧ Hid (L 9 = true → v37 = .agg #[.int .i64 p, .int .i64 q, .int .i64 s, .int .i64 t]) ∧ Hid (L 10 = true → v38 = .slice (some ⟨g7, o7, none⟩) M c7) ∧ Hid (L 11 = true → v39 = .slice (some ⟨g7, o7, none⟩) M c7) ∧ Hid (L 12 = true → v40 = .int .i64 ↑M) ∧ Hid (L 13 = true → v41 = .int .i64 (↑M - 1)) ∧ Hid (L 14 = true → v42 = .pointer (some ⟨g7, o7 + (M - 1) * 4, none⟩)) ∧ Hid (L 15 = true → v43 = .agg #[.int .i64 p', .int .i64 q', .int .i64 s', .int .i64 t']) ∧ (Below w4.heap.size w4 u)) ?_ ?_ ?_
    · exact ⟨_, _, _, _, _, _, _, _, _, _, _, _, rfl, (Lib.hid fun h => by cases h), (Lib.hid fun h => by cases h), (Lib.hid fun h => by cases h), (Lib.hid fun h => by cases h), (Lib.hid fun h => by cases h), (Lib.hid fun h => by cases h), (Lib.hid fun h => by cases h), (Lib.hid fun h => by cases h), (Lib.hid fun h => by cases h), (Lib.hid fun h => by cases h), (Lib.hid fun h => by cases h), (Lib.hid fun h => by cases h), hW⟩
    · clear hW
      intro L a' u i hi1 hi2 hI hL hd
      obtain ⟨v32, v33, v34, v35, v36, v37, v38, v39, v40, v41, v42, v43, rfl, k4, k5, k6, k7, k8, k9, k10, k11, k12, k13, k14, k15, hW⟩ := hI
      obtain rfl | rfl | rfl | rfl | rfl | rfl | rfl | rfl | rfl | rfl | rfl | rfl := (show ∀ i : Nat, 4 ≤ i → i < 16 → (i = 4 ∨ i = 5 ∨ i = 6 ∨ i = 7 ∨ i = 8 ∨ i = 9 ∨ i = 10 ∨ i = 11 ∨ i = 12 ∨ i = 13 ∨ i = 14 ∨ i = 15) by omega) i hi1 hi2
      · -- operation 4
        have HW := Lib.hid hW
        clear hW hL hd hi1 hi2
        refine wpOp_step rfl fun K hK => ?_
        go_simp
        refine hK _ _ ⟨_, _, _, _, _, _, _, _, _, _, _, _, rfl, (Lib.hid fun _ => rfl), k5, k6, k7, k8, k9, k10, k11, k12, k13, k14, k15, HW.out⟩
      · -- operation 5
        have HW := Lib.hid hW
        clear hW hL hd hi1 hi2
        refine wpOp_step rfl fun K hK => ?_
        go_simp
        refine hK _ _ ⟨_, _, _, _, _, _, _, _, _, _, _, _, rfl, k4, (Lib.hid fun _ => rfl), k6, k7, k8, k9, k10, k11, k12, k13, k14, k15, HW.out⟩
      · -- operation 6
        obtain rfl := k5.out (hd 5 (by decide))
        have HW := Lib.hid hW
        clear hW hL hd hi1 hi2
        refine wpOp_step rfl fun K hK => ?_
        go_simp
        refine hK _ _ ⟨_, _, _, _, _, _, _, _, _, _, _, _, rfl, k4, k5, (Lib.hid fun _ => rfl), k7, k8, k9, k10, k11, k12, k13, k14, k15, HW.out⟩
      · -- operation 7
        obtain rfl := k6.out (hd 6 (by decide))
        have HW := Lib.hid hW
        clear hW hL hd hi1 hi2
        refine wpOp_step rfl fun K hK => ?_
        go_simp
        refine hK _ _ ⟨_, _, _, _, _, _, _, _, _, _, _, _, rfl, k4, k5, k6, (Lib.hid fun _ => rfl), k8, k9, k10, k11, k12, k13, k14, k15, HW.out⟩
      · -- operation 8
        obtain rfl := k4.out (hd 4 (by decide))
        obtain rfl := k7.out (hd 7 (by decide))
        have HW := Lib.hid hW
        clear hW hL hd hi1 hi2
        refine wpOp_step rfl fun K hK => ?_
        go_simp
        refine hK _ _ ⟨_, _, _, _, _, _, _, _, _, _, _, _, rfl, k4, k5, k6, k7, (Lib.hid fun _ => rfl), k9, k10, k11, k12, k13, k14, k15, HW.out⟩
      · -- operation 9
        obtain rfl := k8.out (hd 8 (by decide))
        obtain ⟨c0, c1, c2, c3⟩ := (HF.out.1.by hW).2
        have HW := Lib.hid hW
        clear hW hL hd hi1 hi2
        refine wpOp_step rfl fun K hK => ?_
        go_simp
        refine hK _ _ ⟨_, _, _, _, _, _, _, _, _, _, _, _, rfl, k4, k5, k6, k7, k8, (Lib.hid fun _ => rfl), k10, k11, k12, k13, k14, k15, HW.out⟩
      · -- operation 10
        have HW := Lib.hid hW
        clear hW hL hd hi1 hi2
        refine wpOp_step rfl fun K hK => ?_
        go_simp
        refine hK _ _ ⟨_, _, _, _, _, _, _, _, _, _, _, _, rfl, k4, k5, k6, k7, k8, k9, (Lib.hid fun _ => rfl), k11, k12, k13, k14, k15, HW.out⟩
      · -- operation 11
        have HW := Lib.hid hW
        clear hW hL hd hi1 hi2
        refine wpOp_step rfl fun K hK => ?_
        go_simp
        refine hK _ _ ⟨_, _, _, _, _, _, _, _, _, _, _, _, rfl, k4, k5, k6, k7, k8, k9, k10, (Lib.hid fun _ => rfl), k12, k13, k14, k15, HW.out⟩
      · -- operation 12
        obtain rfl := k11.out (hd 11 (by decide))
        have HW := Lib.hid hW
        clear hW hL hd hi1 hi2
        refine wpOp_step rfl fun K hK => ?_
        go_simp
        refine hK _ _ ⟨_, _, _, _, _, _, _, _, _, _, _, _, rfl, k4, k5, k6, k7, k8, k9, k10, k11, (Lib.hid fun _ => rfl), k13, k14, k15, HW.out⟩
      · -- operation 13
        obtain rfl := k12.out (hd 12 (by decide))
        have HW := Lib.hid hW
        clear hW hL hd hi1 hi2
        refine wpOp_step rfl fun K hK => ?_
        go_simp
        refine hK _ _ ⟨_, _, _, _, _, _, _, _, _, _, _, _, rfl, k4, k5, k6, k7, k8, k9, k10, k11, k12, (Lib.hid fun _ => rfl), k14, k15, HW.out⟩
      · -- operation 14
        obtain rfl := k10.out (hd 10 (by decide))
        obtain rfl := k13.out (hd 13 (by decide))
        have HW := Lib.hid hW
        clear hW hL hd hi1 hi2
        refine wpOp_step rfl fun K hK => ?_
        go_simp
        refine hK _ _ ⟨_, _, _, _, _, _, _, _, _, _, _, _, rfl, k4, k5, k6, k7, k8, k9, k10, k11, k12, k13, (Lib.hid fun _ => rfl), k15, HW.out⟩
      · -- operation 15
        obtain rfl := k14.out (hd 14 (by decide))
        obtain ⟨c0, c1, c2, c3⟩ := (HF.out.2.by hW).2
        have HW := Lib.hid hW
        clear hW hL hd hi1 hi2
        refine wpOp_step rfl fun K hK => ?_
        go_simp
        refine hK _ _ ⟨_, _, _, _, _, _, _, _, _, _, _, _, rfl, k4, k5, k6, k7, k8, k9, k10, k11, k12, k13, k14, (Lib.hid fun _ => rfl), HW.out⟩
    clear hW
    clear u
    intro L a' u hI hall
    obtain ⟨v32, v33, v34, v35, v36, v37, v38, v39, v40, v41, v42, v43, rfl, k4, k5, k6, k7, k8, k9, k10, k11, k12, k13, k14, k15, hW⟩ := hI
    obtain rfl := k4.out (hall 4 (by decide))
    obtain rfl := k5.out (hall 5 (by decide))
    obtain rfl := k6.out (hall 6 (by decide))
    obtain rfl := k7.out (hall 7 (by decide))
    obtain rfl := k8.out (hall 8 (by decide))
    obtain rfl := k9.out (hall 9 (by decide))
    obtain rfl := k10.out (hall 10 (by decide))
    obtain rfl := k11.out (hall 11 (by decide))
    obtain rfl := k12.out (hall 12 (by decide))
    obtain rfl := k13.out (hall 13 (by decide))
    obtain rfl := k14.out (hall 14 (by decide))
    obtain rfl := k15.out (hall 15 (by decide))
    clear k4 k5 k6 k7 k8 k9 k10 k11 k12 k13 k14 k15 hall L
    -- operation 16 alone
    refine from_one' hTab 16 (by kernel_rfl) ?_
    have HW := Lib.hid hW
    clear hW
    refine wpOp_step rfl fun K hK => ?_
    go_simp
    go_at_call 26
    refine (HSA.out _).mono ?_
    rintro _ w' ⟨rfl, hb⟩
    refine hK _ _ ?_
    clear hK K
    refine from_gen (fun u => (Below w4.heap.size w4 u)) (HW.out.trans (hb.mono HW.out.size)) ?_
    clear hb HW
    intro u hW
    -- operation 17 alone
    refine from_one' hTab 17 (by kernel_rfl) ?_
    have HW := Lib.hid hW
    clear hW
    refine wpOp_step rfl fun K hK => ?_
    go_simp
    refine hK _ _ ?_
    clear hK K
    have hW := HW.out
    clear HW
    -- operation 18 alone
    refine from_one' hTab 18 (by kernel_rfl) ?_
    have HW := Lib.hid hW
    clear hW
    refine wpOp_step rfl fun K hK => ?_
    go_simp
    refine hK _ _ ?_
    clear hK K
    have hW := HW.out
    clear HW
    refine from_end' hTab 19 (by kernel_rfl) ?_
    clear hTab
    have HW := Lib.hid hW
    clear hW
    go_wp2
    go_ret
    exact ⟨rfl, HB4.out.trans (HW.out.mono HB4.out.size)⟩
end Go.Proofs.Ytojplcchoffapaa
