/- The walk of FnJoinCut. Conditions: at most 1048576 rows in each list. -/
import Derived.Test.YtojplcchoffapaaJoin
import Derived.Test.YtojplcchoffapaaAppend
import Derived.Test.YtojplcchoffapaaBoth
import Derived.Test.YtojplcchoffapaaHas
import Derived.Test.YtojplcchoffapaaPlainCut
import Derived.Test.YtojplcchoffapaaRegion2
namespace Go.Proofs.Ytojplcchoffapaa
open Go.RowKit

set_option maxHeartbeats 8000000 in
theorem joincut_walk (A1 A2 : Option Addr) (n1 c1 n2 c2 : Nat) (z1 z2 : List (List Int)) (w : World) (h1 : RowsAt w A1 n1 z1) (h2 : RowsAt w A2 n2 z2) (hn1 : n1 ≤ 1048576) (hn2 : n2 ≤ 1048576) :
    Calls Try.prog 5 #[.slice A1 n1 c1, .slice A2 n2 c2] w fun e w' => e = .returned (.bool true) ∧ Below w.heap.size w w' := by
  have hl1 := h1.1
  have hl2 := h2.1
  have H1 := Lib.hid h1
  have H2 := Lib.hid h2
  have HN1 := Lib.hid (show (z1.map rectOf).length ≤ 1048576 by rw [List.length_map]; omega)
  have HN2 := Lib.hid (show (z2.map rectOf).length ≤ 1048576 by rw [List.length_map]; omega)
  clear h1 h2 hl1 hl2
  go_enter Try.func5, Try.ntmps5
  go_wp2_with fail
  refine (rects_any A1 n1 c1 z1 _ H1.out hn1).mono ?_
  rintro _ w1 ⟨v1, rfl, ho1, hb1⟩
  have H2' := Lib.hid (H2.out.by hb1)
  have HO1 := Lib.hid ho1
  have HB1 := Lib.hid hb1
  clear ho1 hb1 H1 H2
  go_wp2_with fail
  refine (rects_any A2 n2 c2 z2 _ H2'.out hn2).mono ?_
  rintro _ w2 ⟨v2, rfl, ho2, hb2⟩
  obtain ⟨l1, hl1⟩ : ∃ l, l = z1.map rectOf := ⟨_, rfl⟩
  obtain ⟨l2, hl2⟩ : ∃ l, l = z2.map rectOf := ⟨_, rfl⟩
  rw [← hl1] at HO1 HN1
  rw [← hl2] at ho2 HN2
  obtain ⟨A5, c5, rfl, hR5, hc5⟩ := (HO1.out.by hb2).form'
  obtain ⟨A6, c6, rfl, hR6, hc6⟩ := ho2.form'
  have hm1 := HN1.out
  have hm2 := HN2.out
  have HB2 := Lib.hid (HB1.out.trans (hb2.mono HB1.out.size))
  have HR5 := Lib.hid (And.intro hR5 hc5)
  have HR6 := Lib.hid (And.intro hR6 hc6)
  clear H2' HO1 HB1 ho2 hb2 hR5 hR6 hc5 hc6 hl1 hl2 HN1 HN2
  by_cases e1 : l1.length = 0
  · have b1 : ((l1.length : Int) == 0) = true := by simp [e1]
    have E := Lib.hid e1
    clear e1
    go_wp2
    go_ret
    exact ⟨rfl, HB2.out⟩
  have b1 : ((l1.length : Int) == 0) = false := beq_eq_false_iff_ne.2 (by omega)
  by_cases e2 : l2.length = 0
  · have b2 : ((l2.length : Int) == 0) = true := by simp [e2]
    have E := Lib.hid e2
    clear e2
    go_wp2
    go_ret
    exact ⟨rfl, HB2.out⟩
  have b2 : ((l2.length : Int) == 0) = false := beq_eq_false_iff_ne.2 (by omega)
  have E1 := Lib.hid e1
  have E2 := Lib.hid e2
  clear e1 e2
  go_wp2_with fail
  refine (join_any A5 c5 l1 _ HR5.out.1 (by omega)).mono ?_
  rintro _ w3 ⟨v7, rfl, ho7, hb3⟩
  obtain ⟨A7, c7, rfl, hR7, -⟩ := ho7.form'
  rw [accs_length]
  have HR5' := Lib.hid (And.intro (HR5.out.1.by hb3) HR5.out.2)
  have HR6' := Lib.hid (And.intro (HR6.out.1.by hb3) HR6.out.2)
  have HR7 := Lib.hid hR7
  have HB3 := Lib.hid (HB2.out.trans (hb3.mono HB2.out.size))
  clear HR5 HR6 ho7 hb3 hR7 HB2
  go_wp2_with fail
  refine (join_any A6 c6 l2 _ HR6'.out.1 (by omega)).mono ?_
  rintro _ w4 ⟨v8, rfl, ho8, hb4⟩
  obtain ⟨A8, c8, rfl, hR8, -⟩ := ho8.form'
  rw [accs_length]
  have HR5 := Lib.hid (And.intro (HR5'.out.1.by hb4) HR5'.out.2)
  have HR6 := Lib.hid (And.intro (HR6'.out.1.by hb4) HR6'.out.2)
  have HR7' := Lib.hid (HR7.out.by hb4)
  have HR8 := Lib.hid hR8
  have HB4 := Lib.hid (HB3.out.trans (hb4.mono HB3.out.size))
  clear HR5' HR6' HR7 ho8 hb4 hR8 HB3
  go_wp2_with (first
    | (at_builtin; refine append_rects rfl (.tmp 28) (.tmp 29) rfl _ w4.heap.size _ [] l1 A5 c5 rfl (own_empty w4) rfl (HR5.out.1.alloc _) HR5.out.2 (by simp; omega) (by simp) ?_; intro v5 w5 ho5 hb5 _ _; rw [List.nil_append] at ho5; have HO5 := Lib.hid ho5; have HB5 := Lib.hid (((Below.refl w4.heap.size w4).alloc (Nat.le_refl _) (.cells #[] 24)).trans hb5); clear ho5 hb5)
    | (at_builtin; refine append_rects rfl (.tmp 30) (.tmp 31) rfl w5 w4.heap.size _ l1 l2 A6 c6 rfl HO5.out rfl (HR6.out.1.by HB5.out) HR6.out.2 (by omega) HB5.out.size ?_; intro v6 w6 ho6 hb6 _ _; have HO6 := Lib.hid ho6; have HB6 := Lib.hid (HB5.out.trans hb6); clear ho6 hb6))
  obtain ⟨A9', c9', rfl, hR9', -⟩ := HO6.out.form'
  refine (join_any A9' c9' (l1 ++ l2) _ hR9' (by rw [List.length_append]; omega)).mono ?_
  rintro _ w7 ⟨v9, rfl, ho9, hb7⟩
  obtain ⟨A9, c9, rfl, hR9, -⟩ := ho9.form'
  rw [accs_length]
  have hb47 := HB6.out.trans (hb7.mono HB6.out.size)
  have hp1 : 0 < l1.length := Nat.pos_of_ne_zero E1.out
  have hp2 : 0 < l2.length := Nat.pos_of_ne_zero E2.out
  have hR7 := HR7'.out.by hb47
  have hR8 := HR8.out.by hb47
  obtain ⟨g7, o7, rfl, _⟩ := hR7.addr (by rw [accs_length]; exact hp1)
  obtain ⟨g8, o8, rfl, _⟩ := hR8.addr (by rw [accs_length]; exact hp2)
  obtain ⟨g9, o9, rfl, hg9⟩ := hR9.addr (by rw [accs_length, List.length_append]; omega)
  have hbw := HB4.out.trans (hb47.mono HB4.out.size)
  obtain ⟨⟨a, b, c, d⟩, hv1⟩ : ∃ v : R, acc union l1 = v := ⟨_, rfl⟩
  obtain ⟨⟨e, f, g, h⟩, hv2⟩ : ∃ v : R, acc union l2 = v := ⟨_, rfl⟩
  obtain ⟨⟨p, q, s, t⟩, hv3⟩ : ∃ v : R, acc union (l1 ++ l2) = v := ⟨_, rfl⟩
  obtain ⟨m, hm⟩ : ∃ m : R, stepR 5 0 0 0 ⟨e, f, g, h⟩ ⟨a, b, c, d⟩ = m := ⟨_, rfl⟩
  have hs : sameB p q s t m.x0 m.y0 m.x1 m.y1 = true := by
    have h1 := acc_append union_assoc (l := l1) (m := l2) (fun h => by rw [h] at hp1; simp at hp1) (fun h => by rw [h] at hp2; simp at hp2)
    rw [hv1, hv2, hv3] at h1
    have h2 : m = union ⟨a, b, c, d⟩ ⟨e, f, g, h⟩ := hm.symm
    rw [← h2] at h1
    have h3 := same_refl m
    rw [← h1] at h3 ⊢
    exact h3
  have HR7 := Lib.hid hR7
  have HR8b := Lib.hid hR8
  have HR9 := Lib.hid (And.intro hR9 hg9)
  have HBW := Lib.hid hbw
  have HV1 := Lib.hid (accs_last union l1 (l1.length - 1) (by omega) hv1)
  have HV2 := Lib.hid (accs_last union l2 (l2.length - 1) (by omega) hv2)
  have HV3 := Lib.hid (accs_last union (l1 ++ l2) (l1.length + l2.length - 1) (by rw [List.length_append]; omega) hv3)
  have HM := Lib.hid hm
  have HS := Lib.hid hs
  clear HR8
  have HR8 := HR8b
  clear HO6 hR9' ho9 hb7 hb47 hR9 HB5 HB6 HO5 HR5 HR6 HR7' HB4 hR7 hR8 HR8b hg9 hbw hv1 hv2 hv3 hm hs
  have ell : ((l1 ++ l2).length : Int) = (l1.length : Int) + (l2.length : Int) := by rw [List.length_append]; omega
  have x0 : IntKind.i64.wrap ((l1.length : Int) + (l2.length : Int)) = (l1.length : Int) + (l2.length : Int) := IntWalk.i64_in _ (by omega)
  go_wp2_with fail
  clear ell x0
  have x1 : IntKind.i64.wrap ((l1.length : Int) - 1) = (l1.length : Int) - 1 := IntWalk.i64_in _ (by omega)
  have x2 : (0 : Int) ≤ (l1.length : Int) - 1 := by omega
  have x3 : (l1.length : Int) - 1 < (l1.length : Int) := by omega
  have x4 : ((l1.length : Int) - 1).toNat = l1.length - 1 := by omega
  have x5 : (1 : Int) ≤ (l1.length : Int) := by omega
  have y1 : IntKind.i64.wrap ((l2.length : Int) - 1) = (l2.length : Int) - 1 := IntWalk.i64_in _ (by omega)
  have y2 : (0 : Int) ≤ (l2.length : Int) - 1 := by omega
  have y3 : (l2.length : Int) - 1 < (l2.length : Int) := by omega
  have y4 : ((l2.length : Int) - 1).toNat = l2.length - 1 := by omega
  have y5 : (1 : Int) ≤ (l2.length : Int) := by omega
  refine wp_region_tail [[], [], [1], [1, 2], [0, 1, 2, 3], [0, 1, 2, 3, 4], [], [], [7], [7, 8], [6, 7, 8, 9], [6, 7, 8, 9, 10], [0, 1, 2, 3, 4, 5, 6, 7, 8, 9, 10, 11], [0, 1, 2, 3, 4, 5, 6, 7, 8, 9, 10, 11, 12], [0, 1, 2, 3, 4, 5, 6, 7, 8, 9, 10, 11, 12, 13], [0, 1, 2, 3, 4, 5, 6, 7, 8, 9, 10, 11, 12, 13], [], [0, 1, 2, 3, 4, 5, 6, 7, 8, 9, 10, 11, 12, 13, 14, 16], [0, 1, 2, 3, 4, 5, 6, 7, 8, 9, 10, 11, 12, 13, 14, 15, 16, 17]] (by kernel_rfl) (by kernel_rfl) 19 rfl (by decide) (by decide) (by kernel_rfl)
    (fun L a' u => ∃ v10 v11 v56 v57 v58 v59 v60 v61 v62 v63 v64 v65 v66 v67 v68 v69 v70 v71 : Value, a' = ⟨#[Value.slice A1 n1 c1, Value.slice A2 n2 c2, undef, undef, Value.bool false, Value.slice A5 l1.length c5, Value.slice A6 l2.length c6, Value.slice (some ⟨g7, o7, none⟩) l1.length c7, Value.slice (some ⟨g8, o8, none⟩) l2.length c8, Value.slice (some ⟨g9, o9, none⟩) (l1.length + l2.length) c9, v10, v11, Value.slice A1 n1 c1, Value.slice A5 l1.length c5, Value.slice A2 n2 c2, Value.slice A6 l2.length c6, Value.slice A5 l1.length c5, Value.int IntKind.i64 ↑l1.length, Value.bool false, Value.bool false, Value.slice A6 l2.length c6, Value.int IntKind.i64 ↑l2.length, Value.bool false, Value.bool false, Value.slice A5 l1.length c5, Value.slice (some ⟨g7, o7, none⟩) l1.length c7, Value.slice A6 l2.length c6, Value.slice (some ⟨g8, o8, none⟩) l2.length c8, Value.slice (some { block := w4.heap.size, off := 0 }) 0 0, Value.slice A5 l1.length c5, v5, Value.slice A6 l2.length c6, Value.slice A9' (l1.length + l2.length) c9', Value.slice (some ⟨g9, o9, none⟩) (l1.length + l2.length) c9, Value.slice (some ⟨g7, o7, none⟩) l1.length c7, Value.int IntKind.i64 ↑l1.length, Value.slice A5 l1.length c5, Value.int IntKind.i64 ↑l1.length, Value.bool false, Value.bool false, Value.slice (some ⟨g8, o8, none⟩) l2.length c8, Value.int IntKind.i64 ↑l2.length, Value.slice A6 l2.length c6, Value.int IntKind.i64 ↑l2.length, Value.bool false, Value.bool false, Value.bool false, Value.slice (some ⟨g9, o9, none⟩) (l1.length + l2.length) c9, Value.int IntKind.i64 (↑l1.length + ↑l2.length), Value.slice A5 l1.length c5, Value.int IntKind.i64 ↑l1.length, Value.slice A6 l2.length c6, Value.int IntKind.i64 ↑l2.length, Value.int IntKind.i64 (↑l1.length + ↑l2.length), Value.bool false, Value.bool false, v56, v57, v58, v59, v60, v61, v62, v63, v64, v65, v66, v67, v68, v69, v70, v71, undef, undef, undef, undef, undef, undef, undef, undef, undef, undef, undef], []⟩ ∧
      Hid (L 0 = true → v57 = .slice (some ⟨g7, o7, none⟩) l1.length c7) ∧ Hid (L 1 = true → v58 = .slice (some ⟨g7, o7, none⟩) l1.length c7) ∧ Hid (L 2 = true → v59 = .int .i64 ((l1.length : Int))) ∧ Hid (L 3 = true → v60 = .int .i64 ((l1.length : Int) - 1)) ∧ Hid (L 4 = true → v61 = .pointer (some ⟨g7, o7 + (l1.length - 1) * 4, none⟩)) ∧ Hid (L 5 = true → v62 = .agg #[.int .i64 a, .int .i64 b, .int .i64 c, .int .i64 d]) ∧ Hid (L 6 = true → v63 = .slice (some ⟨g8, o8, none⟩) l2.length c8) ∧ Hid (L 7 = true → v64 = .slice (some ⟨g8, o8, none⟩) l2.length c8) ∧ Hid (L 8 = true → v65 = .int .i64 ((l2.length : Int))) ∧ Hid (L 9 = true → v66 = .int .i64 ((l2.length : Int) - 1)) ∧ Hid (L 10 = true → v67 = .pointer (some ⟨g8, o8 + (l2.length - 1) * 4, none⟩)) ∧ Hid (L 11 = true → v68 = .agg #[.int .i64 e, .int .i64 f, .int .i64 g, .int .i64 h]) ∧ Hid (L 12 = true → v69 = .tuple #[.agg #[.int .i64 m.x0, .int .i64 m.y0, .int .i64 m.x1, .int .i64 m.y1], .bool true]) ∧ Hid (L 13 = true → v56 = .tuple #[.agg #[.int .i64 m.x0, .int .i64 m.y0, .int .i64 m.x1, .int .i64 m.y1], .bool true]) ∧ Hid (L 14 = true → v70 = .agg #[.int .i64 m.x0, .int .i64 m.y0, .int .i64 m.x1, .int .i64 m.y1]) ∧ Hid (L 15 = true → v71 = .bool true) ∧ Hid (L 16 = true → ∃ g10, v10 = .pointer (some ⟨g10, 0, none⟩) ∧ w7.heap.size ≤ g10 ∧ At u g10 24 (bif L 17 then [.int .i64 m.x0, .int .i64 m.y0, .int .i64 m.x1, .int .i64 m.y1] else [.int .i64 0, .int .i64 0, .int .i64 0, .int .i64 0])) ∧ Hid (L 18 = true → v11 = .bool true) ∧ Hid (L 17 = true → L 16 = true) ∧ (Below w7.heap.size w7 u)) ?_ ?_ ?_
  · refine ⟨_, _, _, _, _, _, _, _, _, _, _, _, _, _, _, _, _, _, rfl, (Lib.hid fun h => by cases h), (Lib.hid fun h => by cases h), (Lib.hid fun h => by cases h), (Lib.hid fun h => by cases h), (Lib.hid fun h => by cases h), (Lib.hid fun h => by cases h), (Lib.hid fun h => by cases h), (Lib.hid fun h => by cases h), (Lib.hid fun h => by cases h), (Lib.hid fun h => by cases h), (Lib.hid fun h => by cases h), (Lib.hid fun h => by cases h), (Lib.hid fun h => by cases h), (Lib.hid fun h => by cases h), (Lib.hid fun h => by cases h), (Lib.hid fun h => by cases h), (Lib.hid fun h => by cases h), (Lib.hid fun h => by cases h), (Lib.hid fun h => by cases h), ?_⟩
    exact (Below.refl _ _).drew
  · intro L a' u i hi hI hL hd
    obtain ⟨v10, v11, v56, v57, v58, v59, v60, v61, v62, v63, v64, v65, v66, v67, v68, v69, v70, v71, rfl, k0, k1, k2, k3, k4, k5, k6, k7, k8, k9, k10, k11, k12, k13, k14, k15, k16, k18, q17, hW⟩ := hI
    obtain rfl | rfl | rfl | rfl | rfl | rfl | rfl | rfl | rfl | rfl | rfl | rfl | rfl | rfl | rfl | rfl | rfl | rfl | rfl : i = 0 ∨ i = 1 ∨ i = 2 ∨ i = 3 ∨ i = 4 ∨ i = 5 ∨ i = 6 ∨ i = 7 ∨ i = 8 ∨ i = 9 ∨ i = 10 ∨ i = 11 ∨ i = 12 ∨ i = 13 ∨ i = 14 ∨ i = 15 ∨ i = 16 ∨ i = 17 ∨ i = 18 := by omega
    · -- operation 0
      have HW := Lib.hid hW
      clear hW hL hd
      refine wpOp_step rfl fun K hK => ?_
      go_simp
      refine hK _ _ ⟨_, _, _, _, _, _, _, _, _, _, _, _, _, _, _, _, _, _, rfl, (Lib.hid fun _ => rfl), k1, k2, k3, k4, k5, k6, k7, k8, k9, k10, k11, k12, k13, k14, k15, k16, k18, q17, HW.out⟩
    · -- operation 1
      have HW := Lib.hid hW
      clear hW hL hd
      refine wpOp_step rfl fun K hK => ?_
      go_simp
      refine hK _ _ ⟨_, _, _, _, _, _, _, _, _, _, _, _, _, _, _, _, _, _, rfl, k0, (Lib.hid fun _ => rfl), k2, k3, k4, k5, k6, k7, k8, k9, k10, k11, k12, k13, k14, k15, k16, k18, q17, HW.out⟩
    · -- operation 2
      obtain rfl := k1.out (hd 1 (by decide))
      have HW := Lib.hid hW
      clear hW hL hd
      refine wpOp_step rfl fun K hK => ?_
      go_simp
      refine hK _ _ ⟨_, _, _, _, _, _, _, _, _, _, _, _, _, _, _, _, _, _, rfl, k0, k1, (Lib.hid fun _ => rfl), k3, k4, k5, k6, k7, k8, k9, k10, k11, k12, k13, k14, k15, k16, k18, q17, HW.out⟩
    · -- operation 3
      obtain rfl := k2.out (hd 2 (by decide))
      have HW := Lib.hid hW
      clear hW hL hd
      refine wpOp_step rfl fun K hK => ?_
      go_simp
      refine hK _ _ ⟨_, _, _, _, _, _, _, _, _, _, _, _, _, _, _, _, _, _, rfl, k0, k1, k2, (Lib.hid fun _ => rfl), k4, k5, k6, k7, k8, k9, k10, k11, k12, k13, k14, k15, k16, k18, q17, HW.out⟩
    · -- operation 4
      obtain rfl := k0.out (hd 0 (by decide))
      obtain rfl := k3.out (hd 3 (by decide))
      have HW := Lib.hid hW
      clear hW hL hd
      refine wpOp_step rfl fun K hK => ?_
      go_simp
      refine hK _ _ ⟨_, _, _, _, _, _, _, _, _, _, _, _, _, _, _, _, _, _, rfl, k0, k1, k2, k3, (Lib.hid fun _ => rfl), k5, k6, k7, k8, k9, k10, k11, k12, k13, k14, k15, k16, k18, q17, HW.out⟩
    · -- operation 5
      obtain rfl := k4.out (hd 4 (by decide))
      obtain ⟨c0, c1, c2, c3⟩ := (HR7.out.by hW).cells (i := l1.length - 1) (by rw [accs_length]; omega) HV1.out
      have HW := Lib.hid hW
      clear hW hL hd
      refine wpOp_step rfl fun K hK => ?_
      go_simp
      refine hK _ _ ⟨_, _, _, _, _, _, _, _, _, _, _, _, _, _, _, _, _, _, rfl, k0, k1, k2, k3, k4, (Lib.hid fun _ => rfl), k6, k7, k8, k9, k10, k11, k12, k13, k14, k15, k16, k18, q17, HW.out⟩
    · -- operation 6
      have HW := Lib.hid hW
      clear hW hL hd
      refine wpOp_step rfl fun K hK => ?_
      go_simp
      refine hK _ _ ⟨_, _, _, _, _, _, _, _, _, _, _, _, _, _, _, _, _, _, rfl, k0, k1, k2, k3, k4, k5, (Lib.hid fun _ => rfl), k7, k8, k9, k10, k11, k12, k13, k14, k15, k16, k18, q17, HW.out⟩
    · -- operation 7
      have HW := Lib.hid hW
      clear hW hL hd
      refine wpOp_step rfl fun K hK => ?_
      go_simp
      refine hK _ _ ⟨_, _, _, _, _, _, _, _, _, _, _, _, _, _, _, _, _, _, rfl, k0, k1, k2, k3, k4, k5, k6, (Lib.hid fun _ => rfl), k8, k9, k10, k11, k12, k13, k14, k15, k16, k18, q17, HW.out⟩
    · -- operation 8
      obtain rfl := k7.out (hd 7 (by decide))
      have HW := Lib.hid hW
      clear hW hL hd
      refine wpOp_step rfl fun K hK => ?_
      go_simp
      refine hK _ _ ⟨_, _, _, _, _, _, _, _, _, _, _, _, _, _, _, _, _, _, rfl, k0, k1, k2, k3, k4, k5, k6, k7, (Lib.hid fun _ => rfl), k9, k10, k11, k12, k13, k14, k15, k16, k18, q17, HW.out⟩
    · -- operation 9
      obtain rfl := k8.out (hd 8 (by decide))
      have HW := Lib.hid hW
      clear hW hL hd
      refine wpOp_step rfl fun K hK => ?_
      go_simp
      refine hK _ _ ⟨_, _, _, _, _, _, _, _, _, _, _, _, _, _, _, _, _, _, rfl, k0, k1, k2, k3, k4, k5, k6, k7, k8, (Lib.hid fun _ => rfl), k10, k11, k12, k13, k14, k15, k16, k18, q17, HW.out⟩
    · -- operation 10
      obtain rfl := k6.out (hd 6 (by decide))
      obtain rfl := k9.out (hd 9 (by decide))
      have HW := Lib.hid hW
      clear hW hL hd
      refine wpOp_step rfl fun K hK => ?_
      go_simp
      refine hK _ _ ⟨_, _, _, _, _, _, _, _, _, _, _, _, _, _, _, _, _, _, rfl, k0, k1, k2, k3, k4, k5, k6, k7, k8, k9, (Lib.hid fun _ => rfl), k11, k12, k13, k14, k15, k16, k18, q17, HW.out⟩
    · -- operation 11
      obtain rfl := k10.out (hd 10 (by decide))
      obtain ⟨c0, c1, c2, c3⟩ := (HR8.out.by hW).cells (i := l2.length - 1) (by rw [accs_length]; omega) HV2.out
      have HW := Lib.hid hW
      clear hW hL hd
      refine wpOp_step rfl fun K hK => ?_
      go_simp
      refine hK _ _ ⟨_, _, _, _, _, _, _, _, _, _, _, _, _, _, _, _, _, _, rfl, k0, k1, k2, k3, k4, k5, k6, k7, k8, k9, k10, (Lib.hid fun _ => rfl), k12, k13, k14, k15, k16, k18, q17, HW.out⟩
    · -- operation 12
      obtain rfl := k5.out (hd 5 (by decide))
      obtain rfl := k11.out (hd 11 (by decide))
      have HW := Lib.hid hW
      clear hW hL hd
      refine wpOp_step rfl fun K hK => ?_
      go_simp
      go_at_call 25
      refine (HM.out ▸ both_any 5 a b c d e f g h _).mono ?_
      rintro _ w' ⟨rfl, hb⟩
      refine hK _ _ ⟨_, _, _, _, _, _, _, _, _, _, _, _, _, _, _, _, _, _, rfl, k0, k1, k2, k3, k4, k5, k6, k7, k8, k9, k10, k11, (Lib.hid fun _ => rfl), k13, k14, k15, (Lib.hid fun hl => ?_), k18, q17, HW.out.trans (hb.mono HW.out.size)⟩
      · obtain ⟨gg, eg, lg, hg⟩ := k16.out hl
        exact ⟨gg, eg, lg, hg.by hb⟩
    · -- operation 13
      obtain rfl := k12.out (hd 12 (by decide))
      have HW := Lib.hid hW
      clear hW hL hd
      refine wpOp_step rfl fun K hK => ?_
      go_simp
      refine hK _ _ ⟨_, _, _, _, _, _, _, _, _, _, _, _, _, _, _, _, _, _, rfl, k0, k1, k2, k3, k4, k5, k6, k7, k8, k9, k10, k11, k12, (Lib.hid fun _ => rfl), k14, k15, k16, k18, q17, HW.out⟩
    · -- operation 14
      obtain rfl := k13.out (hd 13 (by decide))
      have HW := Lib.hid hW
      clear hW hL hd
      refine wpOp_step rfl fun K hK => ?_
      go_simp
      refine hK _ _ ⟨_, _, _, _, _, _, _, _, _, _, _, _, _, _, _, _, _, _, rfl, k0, k1, k2, k3, k4, k5, k6, k7, k8, k9, k10, k11, k12, k13, (Lib.hid fun _ => rfl), k15, k16, k18, q17, HW.out⟩
    · -- operation 15
      obtain rfl := k13.out (hd 13 (by decide))
      have HW := Lib.hid hW
      clear hW hL hd
      refine wpOp_step rfl fun K hK => ?_
      go_simp
      refine hK _ _ ⟨_, _, _, _, _, _, _, _, _, _, _, _, _, _, _, _, _, _, rfl, k0, k1, k2, k3, k4, k5, k6, k7, k8, k9, k10, k11, k12, k13, k14, (Lib.hid fun _ => rfl), k16, k18, q17, HW.out⟩
    · -- operation 16
      have hLs : L 17 = false := by
        cases hc : L 17 with
        | false => rfl
        | true => exact absurd (q17.out hc) (by rw [hL]; decide)
      have HW := Lib.hid hW
      clear hW hL hd
      refine wpOp_step rfl fun K hK => ?_
      go_simp
      refine hK _ _ ⟨_, _, _, _, _, _, _, _, _, _, _, _, _, _, _, _, _, _, rfl, k0, k1, k2, k3, k4, k5, k6, k7, k8, k9, k10, k11, k12, k13, k14, k15, (Lib.hid fun _ => ⟨_, rfl, HW.out.size, At.bif_false hLs (At.new _ _ _)⟩), k18, (Lib.hid fun _ => rfl), HW.out.trans (((Below.refl _ _).alloc (Nat.le_refl _) _).mono HW.out.size)⟩
    · -- operation 17
      obtain rfl := k14.out (hd 14 (by decide))
      obtain ⟨gg, rfl, lg, hg⟩ := k16.out (hd 16 (by decide))
      have hda := hd 16 (by decide)
      rw [hL] at hg
      dsimp only [cond_false] at hg
      obtain ⟨⟨c0, c1, c2, c3⟩, z0, z1, z2, z3⟩ := hg.four
      have HG := Lib.hid hg
      clear hg
      have HW := Lib.hid hW
      clear hW hL hd
      refine wpOp_step rfl fun K hK => ?_
      go_simp
      refine hK _ _ ⟨_, _, _, _, _, _, _, _, _, _, _, _, _, _, _, _, _, _, rfl, k0, k1, k2, k3, k4, k5, k6, k7, k8, k9, k10, k11, k12, k13, k14, k15, (Lib.hid fun _ => ⟨gg, rfl, lg, HG.out.set4 _ _ _ _⟩), k18, (Lib.hid fun _ => hda), below_set4 HW.out lg _ _ _ _⟩
    · -- operation 18
      obtain rfl := k15.out (hd 15 (by decide))
      have HW := Lib.hid hW
      clear hW hL hd
      refine wpOp_step rfl fun K hK => ?_
      go_simp
      refine hK _ _ ⟨_, _, _, _, _, _, _, _, _, _, _, _, _, _, _, _, _, _, rfl, k0, k1, k2, k3, k4, k5, k6, k7, k8, k9, k10, k11, k12, k13, k14, k15, k16, (Lib.hid fun _ => rfl), q17, HW.out⟩
  intro L a' u hI hall
  obtain ⟨v10, v11, v56, v57, v58, v59, v60, v61, v62, v63, v64, v65, v66, v67, v68, v69, v70, v71, rfl, k0, k1, k2, k3, k4, k5, k6, k7, k8, k9, k10, k11, k12, k13, k14, k15, k16, k18, q17, hW⟩ := hI
  obtain ⟨g10, e10, l10, h10⟩ := k16.out (hall 16 (by decide))
  obtain rfl := k0.out (hall 0 (by decide))
  obtain rfl := k1.out (hall 1 (by decide))
  obtain rfl := k2.out (hall 2 (by decide))
  obtain rfl := k3.out (hall 3 (by decide))
  obtain rfl := k4.out (hall 4 (by decide))
  obtain rfl := k5.out (hall 5 (by decide))
  obtain rfl := k6.out (hall 6 (by decide))
  obtain rfl := k7.out (hall 7 (by decide))
  obtain rfl := k8.out (hall 8 (by decide))
  obtain rfl := k9.out (hall 9 (by decide))
  obtain rfl := k10.out (hall 10 (by decide))
  obtain rfl := k11.out (hall 11 (by decide))
  obtain rfl := k12.out (hall 12 (by decide))
  obtain rfl := k13.out (hall 13 (by decide))
  obtain rfl := k14.out (hall 14 (by decide))
  obtain rfl := k15.out (hall 15 (by decide))
  obtain rfl := k18.out (hall 18 (by decide))
  subst e10
  rw [show L 17 = true from (hall 17 (by decide))] at h10
  dsimp only [cond_true] at h10
  clear k0 k1 k2 k3 k4 k5 k6 k7 k8 k9 k10 k11 k12 k13 k14 k15 k16 k18 q17 hall
  show wpOps _ _ _ [] _ _
  unfold wpOps
  dsimp only
  clear x1 x2 x3 x4 x5 y1 y2 y3 y4 y5
  have HR9b := Lib.hid (HR9.out.1.by hW)
  have HBW2 := Lib.hid (HBW.out.trans (hW.mono HBW.out.size))
  have H10 := Lib.hid h10
  clear hW h10 HR7 HR8 HR9 HBW HV1 HV2 HM
  obtain ⟨u2, hu2⟩ : ∃ u2, u2 = u := ⟨_, rfl⟩
  rw [← hu2] at HR9b HBW2 H10 ⊢
  clear hu2
  have HR9 := HR9b
  clear HR9b
  go_wp2_with fail
  have x1 : IntKind.i64.wrap ((l1.length : Int) + (l2.length : Int) - 1) = (l1.length : Int) + (l2.length : Int) - 1 := IntWalk.i64_in _ (by omega)
  have x2 : (0 : Int) ≤ (l1.length : Int) + (l2.length : Int) - 1 := by omega
  have x3 : (l1.length : Int) + (l2.length : Int) - 1 < (l1.length : Int) + (l2.length : Int) := by omega
  have x4 : ((l1.length : Int) + (l2.length : Int) - 1).toNat = l1.length + l2.length - 1 := by omega
  have x5 : (1 : Int) ≤ (l1.length : Int) + (l2.length : Int) := by omega
  refine wp_region_tail [[], [0], [0, 1], [0, 1], [0, 1, 3], [0, 1, 3, 4], [0, 1, 2, 3, 4, 5], [0, 1, 2, 3, 4, 5, 6], [0, 1], [0, 1, 2, 3, 4, 5, 6, 7, 8], [0, 1, 2, 3, 4, 5, 6, 7, 8, 9], [0, 1, 2, 3, 4, 5, 6, 7, 8, 9, 10]] (by kernel_rfl) (by kernel_rfl) 12 rfl (by decide) (by decide) (by kernel_rfl)
    (fun L a' u => ∃ v4 v72 v73 v74 v75 v76 v77 v78 v79 v80 v81 v82 : Value, a' = ⟨#[Value.slice A1 n1 c1, Value.slice A2 n2 c2, undef, undef, v4, Value.slice A5 l1.length c5, Value.slice A6 l2.length c6, Value.slice (some ⟨g7, o7, none⟩) l1.length c7, Value.slice (some ⟨g8, o8, none⟩) l2.length c8, Value.slice (some ⟨g9, o9, none⟩) (l1.length + l2.length) c9, .pointer (some ⟨g10, 0, none⟩), .bool true, Value.slice A1 n1 c1, Value.slice A5 l1.length c5, Value.slice A2 n2 c2, Value.slice A6 l2.length c6, Value.slice A5 l1.length c5, Value.int IntKind.i64 ↑l1.length, Value.bool false, Value.bool false, Value.slice A6 l2.length c6, Value.int IntKind.i64 ↑l2.length, Value.bool false, Value.bool false, Value.slice A5 l1.length c5, Value.slice (some ⟨g7, o7, none⟩) l1.length c7, Value.slice A6 l2.length c6, Value.slice (some ⟨g8, o8, none⟩) l2.length c8, Value.slice (some { block := w4.heap.size, off := 0 }) 0 0, Value.slice A5 l1.length c5, v5, Value.slice A6 l2.length c6, Value.slice A9' (l1.length + l2.length) c9', Value.slice (some ⟨g9, o9, none⟩) (l1.length + l2.length) c9, Value.slice (some ⟨g7, o7, none⟩) l1.length c7, Value.int IntKind.i64 ↑l1.length, Value.slice A5 l1.length c5, Value.int IntKind.i64 ↑l1.length, Value.bool false, Value.bool false, Value.slice (some ⟨g8, o8, none⟩) l2.length c8, Value.int IntKind.i64 ↑l2.length, Value.slice A6 l2.length c6, Value.int IntKind.i64 ↑l2.length, Value.bool false, Value.bool false, Value.bool false, Value.slice (some ⟨g9, o9, none⟩) (l1.length + l2.length) c9, Value.int IntKind.i64 (↑l1.length + ↑l2.length), Value.slice A5 l1.length c5, Value.int IntKind.i64 ↑l1.length, Value.slice A6 l2.length c6, Value.int IntKind.i64 ↑l2.length, Value.int IntKind.i64 (↑l1.length + ↑l2.length), Value.bool false, Value.bool false, .tuple #[.agg #[.int .i64 m.x0, .int .i64 m.y0, .int .i64 m.x1, .int .i64 m.y1], .bool true], .slice (some ⟨g7, o7, none⟩) l1.length c7, .slice (some ⟨g7, o7, none⟩) l1.length c7, .int .i64 ((l1.length : Int)), .int .i64 ((l1.length : Int) - 1), .pointer (some ⟨g7, o7 + (l1.length - 1) * 4, none⟩), .agg #[.int .i64 a, .int .i64 b, .int .i64 c, .int .i64 d], .slice (some ⟨g8, o8, none⟩) l2.length c8, .slice (some ⟨g8, o8, none⟩) l2.length c8, .int .i64 ((l2.length : Int)), .int .i64 ((l2.length : Int) - 1), .pointer (some ⟨g8, o8 + (l2.length - 1) * 4, none⟩), .agg #[.int .i64 e, .int .i64 f, .int .i64 g, .int .i64 h], .tuple #[.agg #[.int .i64 m.x0, .int .i64 m.y0, .int .i64 m.x1, .int .i64 m.y1], .bool true], .agg #[.int .i64 m.x0, .int .i64 m.y0, .int .i64 m.x1, .int .i64 m.y1], .bool true, v72, v73, v74, v75, v76, v77, v78, v79, v80, v81, v82], []⟩ ∧
      Hid (L 0 = true → v72 = .bool true) ∧ Hid (L 1 = true → v73 = .bool true) ∧ Hid (L 2 = true → v74 = .slice (some ⟨g9, o9, none⟩) (l1.length + l2.length) c9) ∧ Hid (L 3 = true → v75 = .slice (some ⟨g9, o9, none⟩) (l1.length + l2.length) c9) ∧ Hid (L 4 = true → v76 = .int .i64 ((l1.length : Int) + (l2.length : Int))) ∧ Hid (L 5 = true → v77 = .int .i64 ((l1.length : Int) + (l2.length : Int) - 1)) ∧ Hid (L 6 = true → v78 = .pointer (some ⟨g9, o9 + ((l1.length + l2.length) - 1) * 4, none⟩)) ∧ Hid (L 7 = true → v79 = .agg #[.int .i64 p, .int .i64 q, .int .i64 s, .int .i64 t]) ∧ Hid (L 8 = true → v80 = .agg #[.int .i64 m.x0, .int .i64 m.y0, .int .i64 m.x1, .int .i64 m.y1]) ∧ Hid (L 9 = true → v81 = .bool true) ∧ Hid (L 10 = true → v82 = .bool true) ∧ Hid (L 11 = true → v4 = .bool true) ∧ (Below u2.heap.size u2 u)) ?_ ?_ ?_
  · refine ⟨_, _, _, _, _, _, _, _, _, _, _, _, rfl, (Lib.hid fun h => by cases h), (Lib.hid fun h => by cases h), (Lib.hid fun h => by cases h), (Lib.hid fun h => by cases h), (Lib.hid fun h => by cases h), (Lib.hid fun h => by cases h), (Lib.hid fun h => by cases h), (Lib.hid fun h => by cases h), (Lib.hid fun h => by cases h), (Lib.hid fun h => by cases h), (Lib.hid fun h => by cases h), (Lib.hid fun h => by cases h), ?_⟩
    exact (Below.refl _ _).drew
  · intro L a' u i hi hI hL hd
    obtain ⟨v4, v72, v73, v74, v75, v76, v77, v78, v79, v80, v81, v82, rfl, k0, k1, k2, k3, k4, k5, k6, k7, k8, k9, k10, k11, hW⟩ := hI
    obtain rfl | rfl | rfl | rfl | rfl | rfl | rfl | rfl | rfl | rfl | rfl | rfl : i = 0 ∨ i = 1 ∨ i = 2 ∨ i = 3 ∨ i = 4 ∨ i = 5 ∨ i = 6 ∨ i = 7 ∨ i = 8 ∨ i = 9 ∨ i = 10 ∨ i = 11 := by omega
    · -- operation 0
      have HW := Lib.hid hW
      clear hW hL hd
      refine wpOp_step rfl fun K hK => ?_
      go_simp
      refine hK _ _ ⟨_, _, _, _, _, _, _, _, _, _, _, _, rfl, (Lib.hid fun _ => rfl), k1, k2, k3, k4, k5, k6, k7, k8, k9, k10, k11, HW.out⟩
    · -- operation 1
      obtain rfl := k0.out (hd 0 (by decide))
      have HW := Lib.hid hW
      clear hW hL hd
      refine wpOp_step rfl fun K hK => ?_
      go_simp
      refine hK _ _ ⟨_, _, _, _, _, _, _, _, _, _, _, _, rfl, k0, (Lib.hid fun _ => rfl), k2, k3, k4, k5, k6, k7, k8, k9, k10, k11, HW.out⟩
    · -- operation 2
      obtain rfl := k1.out (hd 1 (by decide))
      have HW := Lib.hid hW
      clear hW hL hd
      refine wpOp_step rfl fun K hK => ?_
      go_simp
      refine hK _ _ ⟨_, _, _, _, _, _, _, _, _, _, _, _, rfl, k0, k1, (Lib.hid fun _ => rfl), k3, k4, k5, k6, k7, k8, k9, k10, k11, HW.out⟩
    · -- operation 3
      obtain rfl := k1.out (hd 1 (by decide))
      have HW := Lib.hid hW
      clear hW hL hd
      refine wpOp_step rfl fun K hK => ?_
      go_simp
      refine hK _ _ ⟨_, _, _, _, _, _, _, _, _, _, _, _, rfl, k0, k1, k2, (Lib.hid fun _ => rfl), k4, k5, k6, k7, k8, k9, k10, k11, HW.out⟩
    · -- operation 4
      obtain rfl := k1.out (hd 1 (by decide))
      obtain rfl := k3.out (hd 3 (by decide))
      have HW := Lib.hid hW
      clear hW hL hd
      refine wpOp_step rfl fun K hK => ?_
      go_simp
      refine hK _ _ ⟨_, _, _, _, _, _, _, _, _, _, _, _, rfl, k0, k1, k2, k3, (Lib.hid fun _ => rfl), k5, k6, k7, k8, k9, k10, k11, HW.out⟩
    · -- operation 5
      obtain rfl := k1.out (hd 1 (by decide))
      obtain rfl := k4.out (hd 4 (by decide))
      have HW := Lib.hid hW
      clear hW hL hd
      refine wpOp_step rfl fun K hK => ?_
      go_simp
      refine hK _ _ ⟨_, _, _, _, _, _, _, _, _, _, _, _, rfl, k0, k1, k2, k3, k4, (Lib.hid fun _ => rfl), k6, k7, k8, k9, k10, k11, HW.out⟩
    · -- operation 6
      obtain rfl := k1.out (hd 1 (by decide))
      obtain rfl := k2.out (hd 2 (by decide))
      obtain rfl := k5.out (hd 5 (by decide))
      have HW := Lib.hid hW
      clear hW hL hd
      refine wpOp_step rfl fun K hK => ?_
      go_simp
      refine hK _ _ ⟨_, _, _, _, _, _, _, _, _, _, _, _, rfl, k0, k1, k2, k3, k4, k5, (Lib.hid fun _ => rfl), k7, k8, k9, k10, k11, HW.out⟩
    · -- operation 7
      obtain rfl := k1.out (hd 1 (by decide))
      obtain rfl := k6.out (hd 6 (by decide))
      obtain ⟨c0, c1, c2, c3⟩ := (HR9.out.by hW).cells (i := l1.length + l2.length - 1) (by rw [accs_length, List.length_append]; omega) HV3.out
      have HW := Lib.hid hW
      clear hW hL hd
      refine wpOp_step rfl fun K hK => ?_
      go_simp
      refine hK _ _ ⟨_, _, _, _, _, _, _, _, _, _, _, _, rfl, k0, k1, k2, k3, k4, k5, k6, (Lib.hid fun _ => rfl), k8, k9, k10, k11, HW.out⟩
    · -- operation 8
      obtain rfl := k1.out (hd 1 (by decide))
      obtain ⟨c0, c1, c2, c3⟩ := (H10.out.by hW).four.1
      have HW := Lib.hid hW
      clear hW hL hd
      refine wpOp_step rfl fun K hK => ?_
      go_simp
      refine hK _ _ ⟨_, _, _, _, _, _, _, _, _, _, _, _, rfl, k0, k1, k2, k3, k4, k5, k6, k7, (Lib.hid fun _ => rfl), k9, k10, k11, HW.out⟩
    · -- operation 9
      obtain rfl := k1.out (hd 1 (by decide))
      obtain rfl := k7.out (hd 7 (by decide))
      obtain rfl := k8.out (hd 8 (by decide))
      have HW := Lib.hid hW
      clear hW hL hd
      refine wpOp_step rfl fun K hK => ?_
      go_simp
      go_at_call 26
      refine (HS.out ▸ lsame_any p q s t m.x0 m.y0 m.x1 m.y1 _).mono ?_
      rintro _ w' ⟨rfl, hb⟩
      refine hK _ _ ⟨_, _, _, _, _, _, _, _, _, _, _, _, rfl, k0, k1, k2, k3, k4, k5, k6, k7, k8, (Lib.hid fun _ => rfl), k10, k11, HW.out.trans (hb.mono HW.out.size)⟩
    · -- operation 10
      obtain rfl := k1.out (hd 1 (by decide))
      obtain rfl := k9.out (hd 9 (by decide))
      have HW := Lib.hid hW
      clear hW hL hd
      refine wpOp_step rfl fun K hK => ?_
      go_simp
      refine hK _ _ ⟨_, _, _, _, _, _, _, _, _, _, _, _, rfl, k0, k1, k2, k3, k4, k5, k6, k7, k8, k9, (Lib.hid fun _ => rfl), k11, HW.out⟩
    · -- operation 11
      obtain rfl := k10.out (hd 10 (by decide))
      have HW := Lib.hid hW
      clear hW hL hd
      refine wpOp_step rfl fun K hK => ?_
      go_simp
      refine hK _ _ ⟨_, _, _, _, _, _, _, _, _, _, _, _, rfl, k0, k1, k2, k3, k4, k5, k6, k7, k8, k9, k10, (Lib.hid fun _ => rfl), HW.out⟩
  intro L a' u hI hall
  obtain ⟨v4, v72, v73, v74, v75, v76, v77, v78, v79, v80, v81, v82, rfl, k0, k1, k2, k3, k4, k5, k6, k7, k8, k9, k10, k11, hW⟩ := hI
  obtain rfl := k0.out (hall 0 (by decide))
  obtain rfl := k1.out (hall 1 (by decide))
  obtain rfl := k2.out (hall 2 (by decide))
  obtain rfl := k3.out (hall 3 (by decide))
  obtain rfl := k4.out (hall 4 (by decide))
  obtain rfl := k5.out (hall 5 (by decide))
  obtain rfl := k6.out (hall 6 (by decide))
  obtain rfl := k7.out (hall 7 (by decide))
  obtain rfl := k8.out (hall 8 (by decide))
  obtain rfl := k9.out (hall 9 (by decide))
  obtain rfl := k10.out (hall 10 (by decide))
  obtain rfl := k11.out (hall 11 (by decide))
  clear k0 k1 k2 k3 k4 k5 k6 k7 k8 k9 k10 k11 hall
  show wpOps _ _ _ [] _ _
  unfold wpOps
  dsimp only
  have HW := Lib.hid hW
  clear hW x1 x2 x3 x4 x5
  go_wp2
  go_ret
  exact ⟨rfl, HBW2.out.trans (HW.out.mono HBW2.out.size)⟩
end Go.Proofs.Ytojplcchoffapaa
