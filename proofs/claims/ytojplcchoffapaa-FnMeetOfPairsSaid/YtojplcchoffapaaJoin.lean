/- The contracts of Join and Meet. Conditions: at most 5864062014634 rectangles. -/
import Derived.Test.YtojplcchoffapaaRects
import Derived.Test.YtojplcchoffapaaAcc
import Derived.Test.YtojplcchoffapaaRegion
namespace Go.Proofs.Ytojplcchoffapaa
open Go.RowKit

set_option maxHeartbeats 4000000 in
theorem join_any (A : Option Addr) (c : Nat) (l : List R) (w : World) (hz : Rects w A l) (hn : l.length ≤ 5864062014634) :
    Calls Try.prog 24 #[.slice A l.length c] w (RetL (accs union l l.length) w) := by
  have HZ := Lib.hid hz
  clear hz
  go_enter Try.func24, Try.ntmps24
  go_wp2
  go_loopw [3, 10] (fun v i wr => ∃ k : Nat, k ≤ l.length ∧ i = .int .i64 k ∧ Own wr w.heap.size v (accs union l k) ∧ Below w.heap.size w wr) (fun _ i _ => l.length - (intOf i).toNat)
  case atStart => exact ⟨0, Nat.zero_le _, rfl, own_empty w, (Below.refl _ _).alloc (Nat.le_refl _) _⟩
  case round =>
    obtain ⟨k, hk, rfl, hown, hbel⟩ := hrel
    have HO := Lib.hid hown
    have HB := Lib.hid hbel
    clear hown hbel
    by_cases hlt : k < l.length
    · obtain ⟨g, o, rfl, hg, c0, c1, c2, c3⟩ := Rects.at_ (HZ.out.by HB.out) hlt
      generalize hr : l[k] = r at c0 c1 c2 c3
      have HR := Lib.hid hr
      clear hr hg
      obtain ⟨a, b, x, d⟩ := r
      dsimp only at c0 c1 c2 c3
      by_cases h0 : 0 < k
      · obtain ⟨A', c', rfl, hRd⟩ := HO.out.form
        obtain ⟨g', o', rfl, _⟩ := hRd.addr (by rw [accs_length]; exact h0)
        have HRd := Lib.hid hRd
        clear hRd
        rw [accs_length] at HO ⊢
        obtain ⟨⟨p, q, s, t⟩, hv⟩ : ∃ v : R, (accs union l k)[k - 1]'(by rw [accs_length]; omega) = v := ⟨_, rfl⟩
        have HV := Lib.hid hv
        have hm1 := acc_step union l k hlt h0
        have hm2 := accs_get union l k (k - 1) (by omega)
        rw [show k - 1 + 1 = k from by omega, hv] at hm2
        rw [← hm2, HR.out] at hm1
        have HM := Lib.hid hm1.symm
        clear hv hm1 hm2
        go_wp2_with fail
        refine (rectangle_any _ _ _ _ _).mono ?_
        rintro _ w1 ⟨rfl, hb1⟩
        have hbn := ((Below.refl wr.heap.size wr).alloc (Nat.le_refl _) (.cells #[.int .i64 a, .int .i64 b, .int .i64 x, .int .i64 d] 24)).trans (hb1.mono (by simp))
        have HB1 := Lib.hid hbn
        clear hb1 hbn c0 c1 c2 c3
        go_wp2_with fail
        have hA : Own (w1.alloc (.cells #[.int .i64 a, .int .i64 b, .int .i64 x, .int .i64 d] 61)).drew w.heap.size (.slice (some ⟨g', o', none⟩) k c') (accs union l k) ∧ Rects (w1.alloc (.cells #[.int .i64 a, .int .i64 b, .int .i64 x, .int .i64 d] 61)).drew (some ⟨g', o', none⟩) (accs union l k) ∧ At (w1.alloc (.cells #[.int .i64 a, .int .i64 b, .int .i64 x, .int .i64 d] 61)).drew w1.heap.size 61 [.int .i64 a, .int .i64 b, .int .i64 x, .int .i64 d] ∧ Below w.heap.size w (w1.alloc (.cells #[.int .i64 a, .int .i64 b, .int .i64 x, .int .i64 d] 61)).drew :=
          ⟨(HO.out.by HB1.out).alloc _, (HRd.out.by HB1.out).alloc _, At.new _ _ _, ((HB.out.trans (HB1.out.mono HB.out.size)).alloc (Nat.le_trans HB.out.size HB1.out.size) _).drew⟩
        obtain ⟨m, hme⟩ : ∃ m, acc union (l.take (k + 1)) = m := ⟨_, rfl⟩
        have HME := Lib.hid hme
        rw [hme] at HM
        clear hme
        have x1 : IntKind.i64.wrap ((k : Int) - 1) = (k : Int) - 1 := IntWalk.i64_in _ (by omega)
        have x2 : (0 : Int) ≤ (k : Int) - 1 := by omega
        have x3 : (k : Int) - 1 < (k : Int) := by omega
        have x4 : ((k : Int) - 1).toNat = k - 1 := by omega
        have x5 : (1 : Int) ≤ (k : Int) := by omega
        refine wp_region_tail [[], [], [1], [0, 1, 2], [0, 1, 2, 3], [0, 1, 2, 3, 4], [], [0, 1, 2, 3, 4, 5, 6], [0, 1, 2, 3, 4, 5, 6, 7]] (by kernel_rfl) (by kernel_rfl) 8 rfl (by decide) (by decide) (by kernel_rfl)
          (fun L a' u => ∃ v19 v20 v21 v22 v23 v24 v25 v26 : Value, a' = ⟨#[.slice (some ⟨g, o, none⟩) l.length c, undef, .slice none 0 0, .slice (some ⟨g', o', none⟩) k c', .int .i64 ↑k, .pointer (some ⟨wr.heap.size, 0, none⟩), .pointer (some ⟨w1.heap.size, 0, none⟩), .slice (some ⟨w.heap.size, 0, none⟩) 0 0, .slice (some ⟨g, o, none⟩) l.length c, .int .i64 ↑l.length, .int .i64 ↑k, .bool true, .int .i64 ↑k, .pointer (some ⟨g, o + k * 4, none⟩), .agg #[.int .i64 a, .int .i64 b, .int .i64 x, .int .i64 d], .agg #[.int .i64 a, .int .i64 b, .int .i64 x, .int .i64 d], .agg #[.int .i64 a, .int .i64 b, .int .i64 x, .int .i64 d], .int .i64 ↑k, .bool true, v19, v20, v21, v22, v23, v24, v25, v26, u27, u28, u29, u30, u31, u32, undef], []⟩ ∧
            Hid (L 0 = true → v19 = .slice (some ⟨g', o', none⟩) k c') ∧ Hid (L 1 = true → v20 = .int .i64 ↑k) ∧ Hid (L 2 = true → v21 = .int .i64 (↑k - 1)) ∧ Hid (L 3 = true → v22 = .pointer (some ⟨g', o' + (k - 1) * 4, none⟩)) ∧ Hid (L 4 = true → v23 = .agg #[.int .i64 p, .int .i64 q, .int .i64 s, .int .i64 t]) ∧ Hid (L 5 = true → v24 = .agg #[.int .i64 p, .int .i64 q, .int .i64 s, .int .i64 t]) ∧ Hid (L 6 = true → v25 = .agg #[.int .i64 a, .int .i64 b, .int .i64 x, .int .i64 d]) ∧ Hid (L 7 = true → v26 = .agg #[.int .i64 m.x0, .int .i64 m.y0, .int .i64 m.x1, .int .i64 m.y1]) ∧ (Own u w.heap.size (.slice (some ⟨g', o', none⟩) k c') (accs union l k) ∧ Rects u (some ⟨g', o', none⟩) (accs union l k) ∧ At u w1.heap.size 61 [.int .i64 a, .int .i64 b, .int .i64 x, .int .i64 d] ∧ Below w.heap.size w u)) ?_ ?_ ?_
        · refine ⟨_, _, _, _, _, _, _, _, rfl, (Lib.hid fun h => by cases h), (Lib.hid fun h => by cases h), (Lib.hid fun h => by cases h), (Lib.hid fun h => by cases h), (Lib.hid fun h => by cases h), (Lib.hid fun h => by cases h), (Lib.hid fun h => by cases h), (Lib.hid fun h => by cases h), ?_⟩
          exact hA
        · intro L a' u i hi hI hL hd
          obtain ⟨v19, v20, v21, v22, v23, v24, v25, v26, rfl, k0, k1, k2, k3, k4, k5, k6, k7, hW⟩ := hI
          obtain rfl | rfl | rfl | rfl | rfl | rfl | rfl | rfl : i = 0 ∨ i = 1 ∨ i = 2 ∨ i = 3 ∨ i = 4 ∨ i = 5 ∨ i = 6 ∨ i = 7 := by omega
          · -- operation 0
            have HW := Lib.hid hW
            clear hW hL hd
            refine wpOp_step rfl fun K hK => ?_
            go_simp
            refine hK _ _ ⟨_, _, _, _, _, _, _, _, rfl, (Lib.hid fun _ => rfl), k1, k2, k3, k4, k5, k6, k7, HW.out⟩
          · -- operation 1
            have HW := Lib.hid hW
            clear hW hL hd
            refine wpOp_step rfl fun K hK => ?_
            go_simp
            refine hK _ _ ⟨_, _, _, _, _, _, _, _, rfl, k0, (Lib.hid fun _ => rfl), k2, k3, k4, k5, k6, k7, HW.out⟩
          · -- operation 2
            obtain rfl := k1.out (hd 1 (by decide))
            have HW := Lib.hid hW
            clear hW hL hd
            refine wpOp_step rfl fun K hK => ?_
            go_simp
            refine hK _ _ ⟨_, _, _, _, _, _, _, _, rfl, k0, k1, (Lib.hid fun _ => rfl), k3, k4, k5, k6, k7, HW.out⟩
          · -- operation 3
            obtain rfl := k0.out (hd 0 (by decide))
            obtain rfl := k2.out (hd 2 (by decide))
            have HW := Lib.hid hW
            clear hW hL hd
            refine wpOp_step rfl fun K hK => ?_
            go_simp
            refine hK _ _ ⟨_, _, _, _, _, _, _, _, rfl, k0, k1, k2, (Lib.hid fun _ => rfl), k4, k5, k6, k7, HW.out⟩
          · -- operation 4
            obtain rfl := k3.out (hd 3 (by decide))
            obtain ⟨c0, c1, c2, c3⟩ := hW.2.1.cells (i := k - 1) (by rw [accs_length]; omega) HV.out
            have HW := Lib.hid hW
            clear hW hL hd
            refine wpOp_step rfl fun K hK => ?_
            go_simp
            refine hK _ _ ⟨_, _, _, _, _, _, _, _, rfl, k0, k1, k2, k3, (Lib.hid fun _ => rfl), k5, k6, k7, HW.out⟩
          · -- operation 5
            obtain rfl := k4.out (hd 4 (by decide))
            have HW := Lib.hid hW
            clear hW hL hd
            refine wpOp_step rfl fun K hK => ?_
            go_simp
            go_at_call 31
            refine (rectangle_any _ _ _ _ _).mono ?_
            rintro _ w' ⟨rfl, hb⟩
            refine hK _ _ ⟨_, _, _, _, _, _, _, _, rfl, k0, k1, k2, k3, k4, (Lib.hid fun _ => rfl), k6, k7, ⟨HW.out.1.by hb, HW.out.2.1.by hb, HW.out.2.2.1.by hb, HW.out.2.2.2.trans (hb.mono HW.out.2.2.2.size)⟩⟩
          · -- operation 6
            obtain ⟨c0, c1, c2, c3⟩ := hW.2.2.1.four.1
            have HW := Lib.hid hW
            clear hW hL hd
            refine wpOp_step rfl fun K hK => ?_
            go_simp
            refine hK _ _ ⟨_, _, _, _, _, _, _, _, rfl, k0, k1, k2, k3, k4, k5, (Lib.hid fun _ => rfl), k7, HW.out⟩
          · -- operation 7
            obtain rfl := k5.out (hd 5 (by decide))
            obtain rfl := k6.out (hd 6 (by decide))
            have HW := Lib.hid hW
            clear hW hL hd
            refine wpOp_step rfl fun K hK => ?_
            go_simp
            go_at_call 41
            refine ((HM.out ▸ union_any p q s t a b x d _)).mono ?_
            rintro _ w' ⟨rfl, hb⟩
            refine hK _ _ ⟨_, _, _, _, _, _, _, _, rfl, k0, k1, k2, k3, k4, k5, k6, (Lib.hid fun _ => rfl), ⟨HW.out.1.by hb, HW.out.2.1.by hb, HW.out.2.2.1.by hb, HW.out.2.2.2.trans (hb.mono HW.out.2.2.2.size)⟩⟩
        intro L a' u hI hall
        obtain ⟨v19, v20, v21, v22, v23, v24, v25, v26, rfl, k0, k1, k2, k3, k4, k5, k6, k7, hW⟩ := hI
        obtain rfl := k0.out (hall 0 (by decide))
        obtain rfl := k1.out (hall 1 (by decide))
        obtain rfl := k2.out (hall 2 (by decide))
        obtain rfl := k3.out (hall 3 (by decide))
        obtain rfl := k4.out (hall 4 (by decide))
        obtain rfl := k5.out (hall 5 (by decide))
        obtain rfl := k6.out (hall 6 (by decide))
        obtain rfl := k7.out (hall 7 (by decide))
        clear k0 k1 k2 k3 k4 k5 k6 k7 hall
        show wpOps _ _ _ [8] _ _
        clear x1 x2 x3 x4 x5 hA
        obtain ⟨hO, -, h6, hb⟩ := hW
        obtain ⟨⟨c0, c1, c2, c3⟩, z0, z1, z2, z3⟩ := h6.four
        have HO2 := Lib.hid hO
        have H6 := Lib.hid h6
        have HB2 := Lib.hid hb
        clear hO h6 hb
        rw [wpOps_cons]
        refine wpOp_step rfl fun K hK => ?_
        go_simp
        refine hK _ _ ?_
        clear c0 c1 c2 c3 z0 z1 z2 z3 hK K
        have hO2 := own_set4 HO2.out H6.out (by decide) (.int .i64 m.x0) (.int .i64 m.y0) (.int .i64 m.x1) (.int .i64 m.y1)
        have h62 := H6.out.set4 (.int .i64 m.x0) (.int .i64 m.y0) (.int .i64 m.x1) (.int .i64 m.y1)
        have hb2 := below_set4 HB2.out (g := w1.heap.size) (Nat.le_trans HB.out.size HB1.out.size) (.int .i64 m.x0) (.int .i64 m.y0) (.int .i64 m.x1) (.int .i64 m.y1)
        clear HO2 H6 HB2
        revert hO2 h62 hb2
        generalize ((((u.setCell ⟨w1.heap.size, 0, none⟩ (.int .i64 m.x0)).setCell ⟨w1.heap.size, 1, none⟩ (.int .i64 m.y0)).setCell ⟨w1.heap.size, 2, none⟩ (.int .i64 m.x1)).setCell ⟨w1.heap.size, 3, none⟩ (.int .i64 m.y1)) = u1
        intro hO2 h62 hb2
        obtain ⟨c0, c1, c2, c3⟩ := h62.four.1
        have HO2 := Lib.hid hO2
        have HB2 := Lib.hid hb2
        clear hO2 h62 hb2
        unfold wpOps
        go_wp2_with fail
        refine (rect_any _ _ _ _ _).mono ?_
        rintro _ w2 ⟨rfl, hb2⟩
        have HO3 := Lib.hid (HO2.out.by hb2)
        have HB3 := Lib.hid (HB2.out.trans (hb2.mono HB2.out.size))
        clear hb2 c0 c1 c2 c3
        go_wp2_with (at_builtin; refine append_rect rfl (.tmp 27) (.tmp 30) rfl w2 w.heap.size _ _ m rfl HO3.out rfl (by rw [accs_length]; omega) HB3.out.size ?_; intro v' w3 hown3 hb3 _)
        go_roundw
        case rel =>
          refine ⟨k + 1, by omega, by go_num, ?_, HB3.out.trans hb3⟩
          rw [accs_succ, HME.out]
          exact hown3
        case measure => simp [intOf]; omega
      · have h0' : k = 0 := by omega
        have HK := Lib.hid h0'
        clear h0'
        go_wp2_with fail
        refine (rectangle_any _ _ _ _ _).mono ?_
        rintro _ w1 ⟨rfl, hb1⟩
        have hbn := ((Below.refl wr.heap.size wr).alloc (Nat.le_refl _) (.cells #[.int .i64 a, .int .i64 b, .int .i64 x, .int .i64 d] 24)).trans (hb1.mono (by simp))
        have HB1 := Lib.hid (hbn.alloc hbn.size (.cells #[.int .i64 a, .int .i64 b, .int .i64 x, .int .i64 d] 61))
        clear hb1 hbn c0 c1 c2 c3
        go_wp2_with fail
        refine (rect_any _ _ _ _ _).mono ?_
        rintro _ w2 ⟨rfl, hb2⟩
        have HO2 := Lib.hid ((HO.out.by HB1.out).by hb2)
        have HB2 := Lib.hid ((HB.out.trans (HB1.out.mono HB.out.size)).trans (hb2.mono (Nat.le_trans HB.out.size HB1.out.size)))
        clear hb2
        go_wp2_with (at_builtin; refine append_rect rfl (.tmp 27) (.tmp 30) rfl w2 w.heap.size _ _ ⟨a, b, x, d⟩ rfl HO2.out rfl (by rw [accs_length]; omega) HB2.out.size ?_; intro v' w3 hown3 hb3 _)
        go_roundw
        case rel =>
          refine ⟨k + 1, by omega, by go_num, ?_, HB2.out.trans hb3⟩
          rw [accs_succ]
          have e : acc union (l.take (k + 1)) = ⟨a, b, x, d⟩ := by
            have hk0 := HK.out
            subst hk0
            rw [acc_first union l hlt]
            exact HR.out
          rw [e]
          exact hown3
        case measure => simp [intOf]; omega
    · obtain rfl : k = l.length := by omega
      go_wp2
      go_ret
      exact ⟨_, rfl, HO.out, HB.out⟩

set_option maxHeartbeats 4000000 in
theorem meet_any (A : Option Addr) (c : Nat) (l : List R) (w : World) (hz : Rects w A l) (hn : l.length ≤ 5864062014634) :
    Calls Try.prog 28 #[.slice A l.length c] w (RetL (accs inter l l.length) w) := by
  have HZ := Lib.hid hz
  clear hz
  go_enter Try.func28, Try.ntmps28
  go_wp2
  go_loopw [3, 10] (fun v i wr => ∃ k : Nat, k ≤ l.length ∧ i = .int .i64 k ∧ Own wr w.heap.size v (accs inter l k) ∧ Below w.heap.size w wr) (fun _ i _ => l.length - (intOf i).toNat)
  case atStart => exact ⟨0, Nat.zero_le _, rfl, own_empty w, (Below.refl _ _).alloc (Nat.le_refl _) _⟩
  case round =>
    obtain ⟨k, hk, rfl, hown, hbel⟩ := hrel
    have HO := Lib.hid hown
    have HB := Lib.hid hbel
    clear hown hbel
    by_cases hlt : k < l.length
    · obtain ⟨g, o, rfl, hg, c0, c1, c2, c3⟩ := Rects.at_ (HZ.out.by HB.out) hlt
      generalize hr : l[k] = r at c0 c1 c2 c3
      have HR := Lib.hid hr
      clear hr hg
      obtain ⟨a, b, x, d⟩ := r
      dsimp only at c0 c1 c2 c3
      by_cases h0 : 0 < k
      · obtain ⟨A', c', rfl, hRd⟩ := HO.out.form
        obtain ⟨g', o', rfl, _⟩ := hRd.addr (by rw [accs_length]; exact h0)
        have HRd := Lib.hid hRd
        clear hRd
        rw [accs_length] at HO ⊢
        obtain ⟨⟨p, q, s, t⟩, hv⟩ : ∃ v : R, (accs inter l k)[k - 1]'(by rw [accs_length]; omega) = v := ⟨_, rfl⟩
        have HV := Lib.hid hv
        have hm1 := acc_step inter l k hlt h0
        have hm2 := accs_get inter l k (k - 1) (by omega)
        rw [show k - 1 + 1 = k from by omega, hv] at hm2
        rw [← hm2, HR.out] at hm1
        have HM := Lib.hid hm1.symm
        clear hv hm1 hm2
        go_wp2_with fail
        refine (rectangle_any _ _ _ _ _).mono ?_
        rintro _ w1 ⟨rfl, hb1⟩
        have hbn := ((Below.refl wr.heap.size wr).alloc (Nat.le_refl _) (.cells #[.int .i64 a, .int .i64 b, .int .i64 x, .int .i64 d] 24)).trans (hb1.mono (by simp))
        have HB1 := Lib.hid hbn
        clear hb1 hbn c0 c1 c2 c3
        go_wp2_with fail
        have hA : Own (w1.alloc (.cells #[.int .i64 a, .int .i64 b, .int .i64 x, .int .i64 d] 61)).drew w.heap.size (.slice (some ⟨g', o', none⟩) k c') (accs inter l k) ∧ Rects (w1.alloc (.cells #[.int .i64 a, .int .i64 b, .int .i64 x, .int .i64 d] 61)).drew (some ⟨g', o', none⟩) (accs inter l k) ∧ At (w1.alloc (.cells #[.int .i64 a, .int .i64 b, .int .i64 x, .int .i64 d] 61)).drew w1.heap.size 61 [.int .i64 a, .int .i64 b, .int .i64 x, .int .i64 d] ∧ Below w.heap.size w (w1.alloc (.cells #[.int .i64 a, .int .i64 b, .int .i64 x, .int .i64 d] 61)).drew :=
          ⟨(HO.out.by HB1.out).alloc _, (HRd.out.by HB1.out).alloc _, At.new _ _ _, ((HB.out.trans (HB1.out.mono HB.out.size)).alloc (Nat.le_trans HB.out.size HB1.out.size) _).drew⟩
        obtain ⟨m, hme⟩ : ∃ m, acc inter (l.take (k + 1)) = m := ⟨_, rfl⟩
        have HME := Lib.hid hme
        rw [hme] at HM
        clear hme
        have x1 : IntKind.i64.wrap ((k : Int) - 1) = (k : Int) - 1 := IntWalk.i64_in _ (by omega)
        have x2 : (0 : Int) ≤ (k : Int) - 1 := by omega
        have x3 : (k : Int) - 1 < (k : Int) := by omega
        have x4 : ((k : Int) - 1).toNat = k - 1 := by omega
        have x5 : (1 : Int) ≤ (k : Int) := by omega
        refine wp_region_tail [[], [], [1], [0, 1, 2], [0, 1, 2, 3], [0, 1, 2, 3, 4], [], [0, 1, 2, 3, 4, 5, 6], [0, 1, 2, 3, 4, 5, 6, 7]] (by kernel_rfl) (by kernel_rfl) 8 rfl (by decide) (by decide) (by kernel_rfl)
          (fun L a' u => ∃ v19 v20 v21 v22 v23 v24 v25 v26 : Value, a' = ⟨#[.slice (some ⟨g, o, none⟩) l.length c, undef, .slice none 0 0, .slice (some ⟨g', o', none⟩) k c', .int .i64 ↑k, .pointer (some ⟨wr.heap.size, 0, none⟩), .pointer (some ⟨w1.heap.size, 0, none⟩), .slice (some ⟨w.heap.size, 0, none⟩) 0 0, .slice (some ⟨g, o, none⟩) l.length c, .int .i64 ↑l.length, .int .i64 ↑k, .bool true, .int .i64 ↑k, .pointer (some ⟨g, o + k * 4, none⟩), .agg #[.int .i64 a, .int .i64 b, .int .i64 x, .int .i64 d], .agg #[.int .i64 a, .int .i64 b, .int .i64 x, .int .i64 d], .agg #[.int .i64 a, .int .i64 b, .int .i64 x, .int .i64 d], .int .i64 ↑k, .bool true, v19, v20, v21, v22, v23, v24, v25, v26, u27, u28, u29, u30, u31, u32, undef], []⟩ ∧
            Hid (L 0 = true → v19 = .slice (some ⟨g', o', none⟩) k c') ∧ Hid (L 1 = true → v20 = .int .i64 ↑k) ∧ Hid (L 2 = true → v21 = .int .i64 (↑k - 1)) ∧ Hid (L 3 = true → v22 = .pointer (some ⟨g', o' + (k - 1) * 4, none⟩)) ∧ Hid (L 4 = true → v23 = .agg #[.int .i64 p, .int .i64 q, .int .i64 s, .int .i64 t]) ∧ Hid (L 5 = true → v24 = .agg #[.int .i64 p, .int .i64 q, .int .i64 s, .int .i64 t]) ∧ Hid (L 6 = true → v25 = .agg #[.int .i64 a, .int .i64 b, .int .i64 x, .int .i64 d]) ∧ Hid (L 7 = true → v26 = .agg #[.int .i64 m.x0, .int .i64 m.y0, .int .i64 m.x1, .int .i64 m.y1]) ∧ (Own u w.heap.size (.slice (some ⟨g', o', none⟩) k c') (accs inter l k) ∧ Rects u (some ⟨g', o', none⟩) (accs inter l k) ∧ At u w1.heap.size 61 [.int .i64 a, .int .i64 b, .int .i64 x, .int .i64 d] ∧ Below w.heap.size w u)) ?_ ?_ ?_
        · refine ⟨_, _, _, _, _, _, _, _, rfl, (Lib.hid fun h => by cases h), (Lib.hid fun h => by cases h), (Lib.hid fun h => by cases h), (Lib.hid fun h => by cases h), (Lib.hid fun h => by cases h), (Lib.hid fun h => by cases h), (Lib.hid fun h => by cases h), (Lib.hid fun h => by cases h), ?_⟩
          exact hA
        · intro L a' u i hi hI hL hd
          obtain ⟨v19, v20, v21, v22, v23, v24, v25, v26, rfl, k0, k1, k2, k3, k4, k5, k6, k7, hW⟩ := hI
          obtain rfl | rfl | rfl | rfl | rfl | rfl | rfl | rfl : i = 0 ∨ i = 1 ∨ i = 2 ∨ i = 3 ∨ i = 4 ∨ i = 5 ∨ i = 6 ∨ i = 7 := by omega
          · -- operation 0
            have HW := Lib.hid hW
            clear hW hL hd
            refine wpOp_step rfl fun K hK => ?_
            go_simp
            refine hK _ _ ⟨_, _, _, _, _, _, _, _, rfl, (Lib.hid fun _ => rfl), k1, k2, k3, k4, k5, k6, k7, HW.out⟩
          · -- operation 1
            have HW := Lib.hid hW
            clear hW hL hd
            refine wpOp_step rfl fun K hK => ?_
            go_simp
            refine hK _ _ ⟨_, _, _, _, _, _, _, _, rfl, k0, (Lib.hid fun _ => rfl), k2, k3, k4, k5, k6, k7, HW.out⟩
          · -- operation 2
            obtain rfl := k1.out (hd 1 (by decide))
            have HW := Lib.hid hW
            clear hW hL hd
            refine wpOp_step rfl fun K hK => ?_
            go_simp
            refine hK _ _ ⟨_, _, _, _, _, _, _, _, rfl, k0, k1, (Lib.hid fun _ => rfl), k3, k4, k5, k6, k7, HW.out⟩
          · -- operation 3
            obtain rfl := k0.out (hd 0 (by decide))
            obtain rfl := k2.out (hd 2 (by decide))
            have HW := Lib.hid hW
            clear hW hL hd
            refine wpOp_step rfl fun K hK => ?_
            go_simp
            refine hK _ _ ⟨_, _, _, _, _, _, _, _, rfl, k0, k1, k2, (Lib.hid fun _ => rfl), k4, k5, k6, k7, HW.out⟩
          · -- operation 4
            obtain rfl := k3.out (hd 3 (by decide))
            obtain ⟨c0, c1, c2, c3⟩ := hW.2.1.cells (i := k - 1) (by rw [accs_length]; omega) HV.out
            have HW := Lib.hid hW
            clear hW hL hd
            refine wpOp_step rfl fun K hK => ?_
            go_simp
            refine hK _ _ ⟨_, _, _, _, _, _, _, _, rfl, k0, k1, k2, k3, (Lib.hid fun _ => rfl), k5, k6, k7, HW.out⟩
          · -- operation 5
            obtain rfl := k4.out (hd 4 (by decide))
            have HW := Lib.hid hW
            clear hW hL hd
            refine wpOp_step rfl fun K hK => ?_
            go_simp
            go_at_call 31
            refine (rectangle_any _ _ _ _ _).mono ?_
            rintro _ w' ⟨rfl, hb⟩
            refine hK _ _ ⟨_, _, _, _, _, _, _, _, rfl, k0, k1, k2, k3, k4, (Lib.hid fun _ => rfl), k6, k7, ⟨HW.out.1.by hb, HW.out.2.1.by hb, HW.out.2.2.1.by hb, HW.out.2.2.2.trans (hb.mono HW.out.2.2.2.size)⟩⟩
          · -- operation 6
            obtain ⟨c0, c1, c2, c3⟩ := hW.2.2.1.four.1
            have HW := Lib.hid hW
            clear hW hL hd
            refine wpOp_step rfl fun K hK => ?_
            go_simp
            refine hK _ _ ⟨_, _, _, _, _, _, _, _, rfl, k0, k1, k2, k3, k4, k5, (Lib.hid fun _ => rfl), k7, HW.out⟩
          · -- operation 7
            obtain rfl := k5.out (hd 5 (by decide))
            obtain rfl := k6.out (hd 6 (by decide))
            have HW := Lib.hid hW
            clear hW hL hd
            refine wpOp_step rfl fun K hK => ?_
            go_simp
            go_at_call 44
            refine ((HM.out ▸ inter_any p q s t a b x d _)).mono ?_
            rintro _ w' ⟨rfl, hb⟩
            refine hK _ _ ⟨_, _, _, _, _, _, _, _, rfl, k0, k1, k2, k3, k4, k5, k6, (Lib.hid fun _ => rfl), ⟨HW.out.1.by hb, HW.out.2.1.by hb, HW.out.2.2.1.by hb, HW.out.2.2.2.trans (hb.mono HW.out.2.2.2.size)⟩⟩
        intro L a' u hI hall
        obtain ⟨v19, v20, v21, v22, v23, v24, v25, v26, rfl, k0, k1, k2, k3, k4, k5, k6, k7, hW⟩ := hI
        obtain rfl := k0.out (hall 0 (by decide))
        obtain rfl := k1.out (hall 1 (by decide))
        obtain rfl := k2.out (hall 2 (by decide))
        obtain rfl := k3.out (hall 3 (by decide))
        obtain rfl := k4.out (hall 4 (by decide))
        obtain rfl := k5.out (hall 5 (by decide))
        obtain rfl := k6.out (hall 6 (by decide))
        obtain rfl := k7.out (hall 7 (by decide))
        clear k0 k1 k2 k3 k4 k5 k6 k7 hall
        show wpOps _ _ _ [8] _ _
        clear x1 x2 x3 x4 x5 hA
        obtain ⟨hO, -, h6, hb⟩ := hW
        obtain ⟨⟨c0, c1, c2, c3⟩, z0, z1, z2, z3⟩ := h6.four
        have HO2 := Lib.hid hO
        have H6 := Lib.hid h6
        have HB2 := Lib.hid hb
        clear hO h6 hb
        rw [wpOps_cons]
        refine wpOp_step rfl fun K hK => ?_
        go_simp
        refine hK _ _ ?_
        clear c0 c1 c2 c3 z0 z1 z2 z3 hK K
        have hO2 := own_set4 HO2.out H6.out (by decide) (.int .i64 m.x0) (.int .i64 m.y0) (.int .i64 m.x1) (.int .i64 m.y1)
        have h62 := H6.out.set4 (.int .i64 m.x0) (.int .i64 m.y0) (.int .i64 m.x1) (.int .i64 m.y1)
        have hb2 := below_set4 HB2.out (g := w1.heap.size) (Nat.le_trans HB.out.size HB1.out.size) (.int .i64 m.x0) (.int .i64 m.y0) (.int .i64 m.x1) (.int .i64 m.y1)
        clear HO2 H6 HB2
        revert hO2 h62 hb2
        generalize ((((u.setCell ⟨w1.heap.size, 0, none⟩ (.int .i64 m.x0)).setCell ⟨w1.heap.size, 1, none⟩ (.int .i64 m.y0)).setCell ⟨w1.heap.size, 2, none⟩ (.int .i64 m.x1)).setCell ⟨w1.heap.size, 3, none⟩ (.int .i64 m.y1)) = u1
        intro hO2 h62 hb2
        obtain ⟨c0, c1, c2, c3⟩ := h62.four.1
        have HO2 := Lib.hid hO2
        have HB2 := Lib.hid hb2
        clear hO2 h62 hb2
        unfold wpOps
        go_wp2_with fail
        refine (rect_any _ _ _ _ _).mono ?_
        rintro _ w2 ⟨rfl, hb2⟩
        have HO3 := Lib.hid (HO2.out.by hb2)
        have HB3 := Lib.hid (HB2.out.trans (hb2.mono HB2.out.size))
        clear hb2 c0 c1 c2 c3
        go_wp2_with (at_builtin; refine append_rect rfl (.tmp 27) (.tmp 30) rfl w2 w.heap.size _ _ m rfl HO3.out rfl (by rw [accs_length]; omega) HB3.out.size ?_; intro v' w3 hown3 hb3 _)
        go_roundw
        case rel =>
          refine ⟨k + 1, by omega, by go_num, ?_, HB3.out.trans hb3⟩
          rw [accs_succ, HME.out]
          exact hown3
        case measure => simp [intOf]; omega
      · have h0' : k = 0 := by omega
        have HK := Lib.hid h0'
        clear h0'
        go_wp2_with fail
        refine (rectangle_any _ _ _ _ _).mono ?_
        rintro _ w1 ⟨rfl, hb1⟩
        have hbn := ((Below.refl wr.heap.size wr).alloc (Nat.le_refl _) (.cells #[.int .i64 a, .int .i64 b, .int .i64 x, .int .i64 d] 24)).trans (hb1.mono (by simp))
        have HB1 := Lib.hid (hbn.alloc hbn.size (.cells #[.int .i64 a, .int .i64 b, .int .i64 x, .int .i64 d] 61))
        clear hb1 hbn c0 c1 c2 c3
        go_wp2_with fail
        refine (rect_any _ _ _ _ _).mono ?_
        rintro _ w2 ⟨rfl, hb2⟩
        have HO2 := Lib.hid ((HO.out.by HB1.out).by hb2)
        have HB2 := Lib.hid ((HB.out.trans (HB1.out.mono HB.out.size)).trans (hb2.mono (Nat.le_trans HB.out.size HB1.out.size)))
        clear hb2
        go_wp2_with (at_builtin; refine append_rect rfl (.tmp 27) (.tmp 30) rfl w2 w.heap.size _ _ ⟨a, b, x, d⟩ rfl HO2.out rfl (by rw [accs_length]; omega) HB2.out.size ?_; intro v' w3 hown3 hb3 _)
        go_roundw
        case rel =>
          refine ⟨k + 1, by omega, by go_num, ?_, HB2.out.trans hb3⟩
          rw [accs_succ]
          have e : acc inter (l.take (k + 1)) = ⟨a, b, x, d⟩ := by
            have hk0 := HK.out
            subst hk0
            rw [acc_first inter l hlt]
            exact HR.out
          rw [e]
          exact hown3
        case measure => simp [intOf]; omega
    · obtain rfl : k = l.length := by omega
      go_wp2
      go_ret
      exact ⟨_, rfl, HO.out, HB.out⟩
end Go.Proofs.Ytojplcchoffapaa
