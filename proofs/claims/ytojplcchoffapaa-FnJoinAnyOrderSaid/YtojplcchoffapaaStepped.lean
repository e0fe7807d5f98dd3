/- The contract of stepped. Conditions: none. -/
import Derived.Test.YtojplcchoffapaaLeaf4
import Derived.Test.YtojplcchoffapaaAts
import Derived.Test.YtojplcchoffapaaRegion
import Derived.Laws.Rows
namespace Go.Proofs.Ytojplcchoffapaa
open Go.RowKit

/-- what one step makes of a rectangle -/
def stepR (op px py n : Int) (s r : R) : R :=
  if op = 0 then addR r px py else if op = 1 then subR r px py else if op = 2 then insetR r n else if op = 3 then canonR r else if op = 4 then inter r s else if op = 5 then union r s else r

set_option maxHeartbeats 2000000 in
theorem stepped_0 (a b c d px py n e f g h : Int) (w : World) :
    Calls Try.prog 49 #[.agg #[.int .i64 a, .int .i64 b, .int .i64 c, .int .i64 d], .agg #[.int .i64 (0), .int .i64 px, .int .i64 py, .int .i64 n, .int .i64 e, .int .i64 f, .int .i64 g, .int .i64 h]] w (RetR (addR ⟨a, b, c, d⟩ px py) w) := by
  obtain ⟨m, hm⟩ : ∃ m, addR ⟨a, b, c, d⟩ px py = m := ⟨_, rfl⟩
  rw [hm]
  have HM := Lib.hid hm
  clear hm
  go_enter Try.func49, Try.ntmps49
  go_wp2_with fail
  refine wp_region_tail [[], [], [1], [1, 2], [0, 1, 2, 3], [0, 1, 2, 3, 4]] (by kernel_rfl) (by kernel_rfl) 5 rfl (by decide) (by decide) (by kernel_rfl)
    (fun L a' u => ∃ v9 v10 v11 v12 v13 : Value, a' = ⟨#[.agg #[.int .i64 a, .int .i64 b, .int .i64 c, .int .i64 d], .agg #[.int .i64 (0), .int .i64 px, .int .i64 py, .int .i64 n, .int .i64 e, .int .i64 f, .int .i64 g, .int .i64 h], .pointer (some ⟨w.heap.size, 0, none⟩), .pointer (some ⟨w.heap.size + 1, 0, none⟩), .pointer (some ⟨w.heap.size + 2, 0, none⟩), .pointer (some ⟨w.heap.size + 1, 0, none⟩), .int .i64 (0), .bool true, .bool true, v9, v10, v11, v12, v13, undef, undef, undef, undef, undef, undef, undef, undef, undef, undef, undef, undef, undef, undef, undef, undef, undef, undef, undef, undef, undef, undef, undef, undef, undef, undef, undef, undef, undef, undef, undef, undef], []⟩ ∧
      Hid (L 0 = true → v9 = .agg #[.int .i64 a, .int .i64 b, .int .i64 c, .int .i64 d]) ∧ Hid (L 1 = true → v10 = .pointer (some ⟨w.heap.size + 1, 1, none⟩)) ∧ Hid (L 2 = true → v11 = .agg #[.int .i64 px, .int .i64 py]) ∧ Hid (L 3 = true → v12 = .agg #[.int .i64 px, .int .i64 py]) ∧ Hid (L 4 = true → v13 = .agg #[.int .i64 m.x0, .int .i64 m.y0, .int .i64 m.x1, .int .i64 m.y1]) ∧ (Ats [(w.heap.size, 61, [.int .i64 a, .int .i64 b, .int .i64 c, .int .i64 d]), (w.heap.size + 1, 71, [.int .i64 (0), .int .i64 px, .int .i64 py, .int .i64 n, .int .i64 e, .int .i64 f, .int .i64 g, .int .i64 h]), (w.heap.size + 2, 61, [.int .i64 0, .int .i64 0, .int .i64 0, .int .i64 0])] w u)) ?_ ?_ ?_
  · refine ⟨_, _, _, _, _, rfl, (Lib.hid fun h => by cases h), (Lib.hid fun h => by cases h), (Lib.hid fun h => by cases h), (Lib.hid fun h => by cases h), (Lib.hid fun h => by cases h), ?_⟩
    refine Ats.cons ?_ (Ats.cons ?_ (Ats.cons ?_ (Ats.nil ?_)))
    · (repeat first | exact At.new' _ _ _ (by first | rfl | (simp only [size_alloc])) | refine At.drew ?_ | refine At.alloc ?_ _)
    · (repeat first | exact At.new' _ _ _ (by first | rfl | (simp only [size_alloc])) | refine At.drew ?_ | refine At.alloc ?_ _)
    · (repeat first | exact At.new' _ _ _ (by first | rfl | (simp only [size_alloc])) | refine At.drew ?_ | refine At.alloc ?_ _)
    · (repeat first | exact Below.refl _ _ | refine Below.drew ?_ | refine Below.alloc ?_ (by first | exact Nat.le_refl _ | (simp only [size_alloc]; omega)) _)
  · intro L a' u i hi hI hL hd
    obtain ⟨v9, v10, v11, v12, v13, rfl, k0, k1, k2, k3, k4, hW⟩ := hI
    obtain rfl | rfl | rfl | rfl | rfl : i = 0 ∨ i = 1 ∨ i = 2 ∨ i = 3 ∨ i = 4 := by omega
    · -- operation 0
      obtain ⟨c0, c1, c2, c3⟩ := (hW.nth 0 rfl).four.1
      have HW := Lib.hid hW
      clear hW hL hd
      refine wpOp_step rfl fun K hK => ?_
      go_simp
      refine hK _ _ ⟨_, _, _, _, _, rfl, (Lib.hid fun _ => rfl), k1, k2, k3, k4, HW.out⟩
    · -- operation 1
      have HW := Lib.hid hW
      clear hW hL hd
      refine wpOp_step rfl fun K hK => ?_
      go_simp
      refine hK _ _ ⟨_, _, _, _, _, rfl, k0, (Lib.hid fun _ => rfl), k2, k3, k4, HW.out⟩
    · -- operation 2
      obtain rfl := k1.out (hd 1 (by decide))
      obtain ⟨c0, c1, c2, c3, c4, c5, c6, c7⟩ := (hW.nth 1 rfl).eight.1
      have HW := Lib.hid hW
      clear hW hL hd
      refine wpOp_step rfl fun K hK => ?_
      go_simp
      refine hK _ _ ⟨_, _, _, _, _, rfl, k0, k1, (Lib.hid fun _ => rfl), k3, k4, HW.out⟩
    · -- operation 3
      obtain rfl := k2.out (hd 2 (by decide))
      have HW := Lib.hid hW
      clear hW hL hd
      refine wpOp_step rfl fun K hK => ?_
      go_simp
      go_at_call 33
      refine (point_any _ _ _).mono ?_
      rintro _ w' ⟨rfl, hb⟩
      refine hK _ _ ⟨_, _, _, _, _, rfl, k0, k1, k2, (Lib.hid fun _ => rfl), k4, HW.out.by hb⟩
    · -- operation 4
      obtain rfl := k0.out (hd 0 (by decide))
      obtain rfl := k3.out (hd 3 (by decide))
      have HW := Lib.hid hW
      clear hW hL hd
      refine wpOp_step rfl fun K hK => ?_
      go_simp
      go_at_call 50
      refine (HM.out ▸ add_any a b c d px py _).mono ?_
      rintro _ w' ⟨rfl, hb⟩
      refine hK _ _ ⟨_, _, _, _, _, rfl, k0, k1, k2, k3, (Lib.hid fun _ => rfl), HW.out.by hb⟩
  intro L a' u hI hall
  obtain ⟨v9, v10, v11, v12, v13, rfl, k0, k1, k2, k3, k4, hW⟩ := hI
  obtain rfl := k0.out (hall 0 (by decide))
  obtain rfl := k1.out (hall 1 (by decide))
  obtain rfl := k2.out (hall 2 (by decide))
  obtain rfl := k3.out (hall 3 (by decide))
  obtain rfl := k4.out (hall 4 (by decide))
  clear k0 k1 k2 k3 k4 hall
  show wpOps _ _ _ [5] _ _
  obtain ⟨⟨c0, c1, c2, c3⟩, z0, z1, z2, z3⟩ := (hW.nth 2 rfl).four
  have HW := Lib.hid hW
  clear hW
  rw [wpOps_cons]
  refine wpOp_step rfl fun K hK => ?_
  go_simp
  refine hK _ _ ?_
  clear hK K
  unfold wpOps
  go_wp2
  exact bodyPost_ret (results_cell_row rfl _ _ (w.heap.size + 2) _ _ _ _ rfl ((HW.out.nth 2 rfl).set4 _ _ _ _) Try.underlying61 rfl (by kernel_rfl)) rfl (RetR.mk rfl (below_set4 HW.out.2 (by omega) _ _ _ _))

set_option maxHeartbeats 2000000 in
theorem stepped_1 (a b c d px py n e f g h : Int) (w : World) :
    Calls Try.prog 49 #[.agg #[.int .i64 a, .int .i64 b, .int .i64 c, .int .i64 d], .agg #[.int .i64 (1), .int .i64 px, .int .i64 py, .int .i64 n, .int .i64 e, .int .i64 f, .int .i64 g, .int .i64 h]] w (RetR (subR ⟨a, b, c, d⟩ px py) w) := by
  obtain ⟨m, hm⟩ : ∃ m, subR ⟨a, b, c, d⟩ px py = m := ⟨_, rfl⟩
  rw [hm]
  have HM := Lib.hid hm
  clear hm
  go_enter Try.func49, Try.ntmps49
  go_wp2_with fail
  refine wp_region_tail [[], [], [1], [1, 2], [0, 1, 2, 3], [0, 1, 2, 3, 4]] (by kernel_rfl) (by kernel_rfl) 5 rfl (by decide) (by decide) (by kernel_rfl)
    (fun L a' u => ∃ v16 v17 v18 v19 v20 : Value, a' = ⟨#[.agg #[.int .i64 a, .int .i64 b, .int .i64 c, .int .i64 d], .agg #[.int .i64 (1), .int .i64 px, .int .i64 py, .int .i64 n, .int .i64 e, .int .i64 f, .int .i64 g, .int .i64 h], .pointer (some ⟨w.heap.size, 0, none⟩), .pointer (some ⟨w.heap.size + 1, 0, none⟩), .pointer (some ⟨w.heap.size + 2, 0, none⟩), .pointer (some ⟨w.heap.size + 1, 0, none⟩), .int .i64 (1), .bool false, .bool false, undef, undef, undef, undef, undef, .bool true, .bool true, v16, v17, v18, v19, v20, undef, undef, undef, undef, undef, undef, undef, undef, undef, undef, undef, undef, undef, undef, undef, undef, undef, undef, undef, undef, undef, undef, undef, undef, undef], []⟩ ∧
      Hid (L 0 = true → v16 = .agg #[.int .i64 a, .int .i64 b, .int .i64 c, .int .i64 d]) ∧ Hid (L 1 = true → v17 = .pointer (some ⟨w.heap.size + 1, 1, none⟩)) ∧ Hid (L 2 = true → v18 = .agg #[.int .i64 px, .int .i64 py]) ∧ Hid (L 3 = true → v19 = .agg #[.int .i64 px, .int .i64 py]) ∧ Hid (L 4 = true → v20 = .agg #[.int .i64 m.x0, .int .i64 m.y0, .int .i64 m.x1, .int .i64 m.y1]) ∧ (Ats [(w.heap.size, 61, [.int .i64 a, .int .i64 b, .int .i64 c, .int .i64 d]), (w.heap.size + 1, 71, [.int .i64 (1), .int .i64 px, .int .i64 py, .int .i64 n, .int .i64 e, .int .i64 f, .int .i64 g, .int .i64 h]), (w.heap.size + 2, 61, [.int .i64 0, .int .i64 0, .int .i64 0, .int .i64 0])] w u)) ?_ ?_ ?_
  · refine ⟨_, _, _, _, _, rfl, (Lib.hid fun h => by cases h), (Lib.hid fun h => by cases h), (Lib.hid fun h => by cases h), (Lib.hid fun h => by cases h), (Lib.hid fun h => by cases h), ?_⟩
    refine Ats.cons ?_ (Ats.cons ?_ (Ats.cons ?_ (Ats.nil ?_)))
    · (repeat first | exact At.new' _ _ _ (by first | rfl | (simp only [size_alloc])) | refine At.drew ?_ | refine At.alloc ?_ _)
    · (repeat first | exact At.new' _ _ _ (by first | rfl | (simp only [size_alloc])) | refine At.drew ?_ | refine At.alloc ?_ _)
    · (repeat first | exact At.new' _ _ _ (by first | rfl | (simp only [size_alloc])) | refine At.drew ?_ | refine At.alloc ?_ _)
    · (repeat first | exact Below.refl _ _ | refine Below.drew ?_ | refine Below.alloc ?_ (by first | exact Nat.le_refl _ | (simp only [size_alloc]; omega)) _)
  · intro L a' u i hi hI hL hd
    obtain ⟨v16, v17, v18, v19, v20, rfl, k0, k1, k2, k3, k4, hW⟩ := hI
    obtain rfl | rfl | rfl | rfl | rfl : i = 0 ∨ i = 1 ∨ i = 2 ∨ i = 3 ∨ i = 4 := by omega
    · -- operation 0
      obtain ⟨c0, c1, c2, c3⟩ := (hW.nth 0 rfl).four.1
      have HW := Lib.hid hW
      clear hW hL hd
      refine wpOp_step rfl fun K hK => ?_
      go_simp
      refine hK _ _ ⟨_, _, _, _, _, rfl, (Lib.hid fun _ => rfl), k1, k2, k3, k4, HW.out⟩
    · -- operation 1
      have HW := Lib.hid hW
      clear hW hL hd
      refine wpOp_step rfl fun K hK => ?_
      go_simp
      refine hK _ _ ⟨_, _, _, _, _, rfl, k0, (Lib.hid fun _ => rfl), k2, k3, k4, HW.out⟩
    · -- operation 2
      obtain rfl := k1.out (hd 1 (by decide))
      obtain ⟨c0, c1, c2, c3, c4, c5, c6, c7⟩ := (hW.nth 1 rfl).eight.1
      have HW := Lib.hid hW
      clear hW hL hd
      refine wpOp_step rfl fun K hK => ?_
      go_simp
      refine hK _ _ ⟨_, _, _, _, _, rfl, k0, k1, (Lib.hid fun _ => rfl), k3, k4, HW.out⟩
    · -- operation 3
      obtain rfl := k2.out (hd 2 (by decide))
      have HW := Lib.hid hW
      clear hW hL hd
      refine wpOp_step rfl fun K hK => ?_
      go_simp
      go_at_call 33
      refine (point_any _ _ _).mono ?_
      rintro _ w' ⟨rfl, hb⟩
      refine hK _ _ ⟨_, _, _, _, _, rfl, k0, k1, k2, (Lib.hid fun _ => rfl), k4, HW.out.by hb⟩
    · -- operation 4
      obtain rfl := k0.out (hd 0 (by decide))
      obtain rfl := k3.out (hd 3 (by decide))
      have HW := Lib.hid hW
      clear hW hL hd
      refine wpOp_step rfl fun K hK => ?_
      go_simp
      go_at_call 51
      refine (HM.out ▸ subp_any a b c d px py _).mono ?_
      rintro _ w' ⟨rfl, hb⟩
      refine hK _ _ ⟨_, _, _, _, _, rfl, k0, k1, k2, k3, (Lib.hid fun _ => rfl), HW.out.by hb⟩
  intro L a' u hI hall
  obtain ⟨v16, v17, v18, v19, v20, rfl, k0, k1, k2, k3, k4, hW⟩ := hI
  obtain rfl := k0.out (hall 0 (by decide))
  obtain rfl := k1.out (hall 1 (by decide))
  obtain rfl := k2.out (hall 2 (by decide))
  obtain rfl := k3.out (hall 3 (by decide))
  obtain rfl := k4.out (hall 4 (by decide))
  clear k0 k1 k2 k3 k4 hall
  show wpOps _ _ _ [5] _ _
  obtain ⟨⟨c0, c1, c2, c3⟩, z0, z1, z2, z3⟩ := (hW.nth 2 rfl).four
  have HW := Lib.hid hW
  clear hW
  rw [wpOps_cons]
  refine wpOp_step rfl fun K hK => ?_
  go_simp
  refine hK _ _ ?_
  clear hK K
  unfold wpOps
  go_wp2
  exact bodyPost_ret (results_cell_row rfl _ _ (w.heap.size + 2) _ _ _ _ rfl ((HW.out.nth 2 rfl).set4 _ _ _ _) Try.underlying61 rfl (by kernel_rfl)) rfl (RetR.mk rfl (below_set4 HW.out.2 (by omega) _ _ _ _))

set_option maxHeartbeats 2000000 in
theorem stepped_4 (a b c d px py n e f g h : Int) (w : World) :
    Calls Try.prog 49 #[.agg #[.int .i64 a, .int .i64 b, .int .i64 c, .int .i64 d], .agg #[.int .i64 (4), .int .i64 px, .int .i64 py, .int .i64 n, .int .i64 e, .int .i64 f, .int .i64 g, .int .i64 h]] w (RetR (inter ⟨a, b, c, d⟩ ⟨e, f, g, h⟩) w) := by
  obtain ⟨m, hm⟩ : ∃ m, inter ⟨a, b, c, d⟩ ⟨e, f, g, h⟩ = m := ⟨_, rfl⟩
  rw [hm]
  have HM := Lib.hid hm
  clear hm
  go_enter Try.func49, Try.ntmps49
  go_wp2_with fail
  refine wp_region_tail [[], [], [1], [1, 2], [0, 1, 2, 3], [0, 1, 2, 3, 4]] (by kernel_rfl) (by kernel_rfl) 5 rfl (by decide) (by decide) (by kernel_rfl)
    (fun L a' u => ∃ v33 v34 v35 v36 v37 : Value, a' = ⟨#[.agg #[.int .i64 a, .int .i64 b, .int .i64 c, .int .i64 d], .agg #[.int .i64 (4), .int .i64 px, .int .i64 py, .int .i64 n, .int .i64 e, .int .i64 f, .int .i64 g, .int .i64 h], .pointer (some ⟨w.heap.size, 0, none⟩), .pointer (some ⟨w.heap.size + 1, 0, none⟩), .pointer (some ⟨w.heap.size + 2, 0, none⟩), .pointer (some ⟨w.heap.size + 1, 0, none⟩), .int .i64 (4), .bool false, .bool false, undef, undef, undef, undef, undef, .bool false, .bool false, undef, undef, undef, undef, undef, .bool false, .bool false, undef, undef, undef, undef, .bool false, .bool false, undef, undef, .bool true, .bool true, v33, v34, v35, v36, v37, undef, undef, undef, undef, undef, undef, undef, undef], []⟩ ∧
      Hid (L 0 = true → v33 = .agg #[.int .i64 a, .int .i64 b, .int .i64 c, .int .i64 d]) ∧ Hid (L 1 = true → v34 = .pointer (some ⟨w.heap.size + 1, 4, none⟩)) ∧ Hid (L 2 = true → v35 = .agg #[.int .i64 e, .int .i64 f, .int .i64 g, .int .i64 h]) ∧ Hid (L 3 = true → v36 = .agg #[.int .i64 e, .int .i64 f, .int .i64 g, .int .i64 h]) ∧ Hid (L 4 = true → v37 = .agg #[.int .i64 m.x0, .int .i64 m.y0, .int .i64 m.x1, .int .i64 m.y1]) ∧ (Ats [(w.heap.size, 61, [.int .i64 a, .int .i64 b, .int .i64 c, .int .i64 d]), (w.heap.size + 1, 71, [.int .i64 (4), .int .i64 px, .int .i64 py, .int .i64 n, .int .i64 e, .int .i64 f, .int .i64 g, .int .i64 h]), (w.heap.size + 2, 61, [.int .i64 0, .int .i64 0, .int .i64 0, .int .i64 0])] w u)) ?_ ?_ ?_
  · refine ⟨_, _, _, _, _, rfl, (Lib.hid fun h => by cases h), (Lib.hid fun h => by cases h), (Lib.hid fun h => by cases h), (Lib.hid fun h => by cases h), (Lib.hid fun h => by cases h), ?_⟩
    refine Ats.cons ?_ (Ats.cons ?_ (Ats.cons ?_ (Ats.nil ?_)))
    · (repeat first | exact At.new' _ _ _ (by first | rfl | (simp only [size_alloc])) | refine At.drew ?_ | refine At.alloc ?_ _)
    · (repeat first | exact At.new' _ _ _ (by first | rfl | (simp only [size_alloc])) | refine At.drew ?_ | refine At.alloc ?_ _)
    · (repeat first | exact At.new' _ _ _ (by first | rfl | (simp only [size_alloc])) | refine At.drew ?_ | refine At.alloc ?_ _)
    · (repeat first | exact Below.refl _ _ | refine Below.drew ?_ | refine Below.alloc ?_ (by first | exact Nat.le_refl _ | (simp only [size_alloc]; omega)) _)
  · intro L a' u i hi hI hL hd
    obtain ⟨v33, v34, v35, v36, v37, rfl, k0, k1, k2, k3, k4, hW⟩ := hI
    obtain rfl | rfl | rfl | rfl | rfl : i = 0 ∨ i = 1 ∨ i = 2 ∨ i = 3 ∨ i = 4 := by omega
    · -- operation 0
      obtain ⟨c0, c1, c2, c3⟩ := (hW.nth 0 rfl).four.1
      have HW := Lib.hid hW
      clear hW hL hd
      refine wpOp_step rfl fun K hK => ?_
      go_simp
      refine hK _ _ ⟨_, _, _, _, _, rfl, (Lib.hid fun _ => rfl), k1, k2, k3, k4, HW.out⟩
    · -- operation 1
      have HW := Lib.hid hW
      clear hW hL hd
      refine wpOp_step rfl fun K hK => ?_
      go_simp
      refine hK _ _ ⟨_, _, _, _, _, rfl, k0, (Lib.hid fun _ => rfl), k2, k3, k4, HW.out⟩
    · -- operation 2
      obtain rfl := k1.out (hd 1 (by decide))
      obtain ⟨c0, c1, c2, c3, c4, c5, c6, c7⟩ := (hW.nth 1 rfl).eight.1
      have HW := Lib.hid hW
      clear hW hL hd
      refine wpOp_step rfl fun K hK => ?_
      go_simp
      refine hK _ _ ⟨_, _, _, _, _, rfl, k0, k1, (Lib.hid fun _ => rfl), k3, k4, HW.out⟩
    · -- operation 3
      obtain rfl := k2.out (hd 2 (by decide))
      have HW := Lib.hid hW
      clear hW hL hd
      refine wpOp_step rfl fun K hK => ?_
      go_simp
      go_at_call 31
      refine (rectangle_any _ _ _ _ _).mono ?_
      rintro _ w' ⟨rfl, hb⟩
      refine hK _ _ ⟨_, _, _, _, _, rfl, k0, k1, k2, (Lib.hid fun _ => rfl), k4, HW.out.by hb⟩
    · -- operation 4
      obtain rfl := k0.out (hd 0 (by decide))
      obtain rfl := k3.out (hd 3 (by decide))
      have HW := Lib.hid hW
      clear hW hL hd
      refine wpOp_step rfl fun K hK => ?_
      go_simp
      go_at_call 44
      refine (HM.out ▸ inter_any a b c d e f g h _).mono ?_
      rintro _ w' ⟨rfl, hb⟩
      refine hK _ _ ⟨_, _, _, _, _, rfl, k0, k1, k2, k3, (Lib.hid fun _ => rfl), HW.out.by hb⟩
  intro L a' u hI hall
  obtain ⟨v33, v34, v35, v36, v37, rfl, k0, k1, k2, k3, k4, hW⟩ := hI
  obtain rfl := k0.out (hall 0 (by decide))
  obtain rfl := k1.out (hall 1 (by decide))
  obtain rfl := k2.out (hall 2 (by decide))
  obtain rfl := k3.out (hall 3 (by decide))
  obtain rfl := k4.out (hall 4 (by decide))
  clear k0 k1 k2 k3 k4 hall
  show wpOps _ _ _ [5] _ _
  obtain ⟨⟨c0, c1, c2, c3⟩, z0, z1, z2, z3⟩ := (hW.nth 2 rfl).four
  have HW := Lib.hid hW
  clear hW
  rw [wpOps_cons]
  refine wpOp_step rfl fun K hK => ?_
  go_simp
  refine hK _ _ ?_
  clear hK K
  unfold wpOps
  go_wp2
  exact bodyPost_ret (results_cell_row rfl _ _ (w.heap.size + 2) _ _ _ _ rfl ((HW.out.nth 2 rfl).set4 _ _ _ _) Try.underlying61 rfl (by kernel_rfl)) rfl (RetR.mk rfl (below_set4 HW.out.2 (by omega) _ _ _ _))

set_option maxHeartbeats 2000000 in
theorem stepped_5 (a b c d px py n e f g h : Int) (w : World) :
    Calls Try.prog 49 #[.agg #[.int .i64 a, .int .i64 b, .int .i64 c, .int .i64 d], .agg #[.int .i64 (5), .int .i64 px, .int .i64 py, .int .i64 n, .int .i64 e, .int .i64 f, .int .i64 g, .int .i64 h]] w (RetR (union ⟨a, b, c, d⟩ ⟨e, f, g, h⟩) w) := by
  obtain ⟨m, hm⟩ : ∃ m, union ⟨a, b, c, d⟩ ⟨e, f, g, h⟩ = m := ⟨_, rfl⟩
  rw [hm]
  have HM := Lib.hid hm
  clear hm
  go_enter Try.func49, Try.ntmps49
  go_wp2_with fail
  refine wp_region_tail [[], [], [1], [1, 2], [0, 1, 2, 3], [0, 1, 2, 3, 4]] (by kernel_rfl) (by kernel_rfl) 5 rfl (by decide) (by decide) (by kernel_rfl)
    (fun L a' u => ∃ v40 v41 v42 v43 v44 : Value, a' = ⟨#[.agg #[.int .i64 a, .int .i64 b, .int .i64 c, .int .i64 d], .agg #[.int .i64 (5), .int .i64 px, .int .i64 py, .int .i64 n, .int .i64 e, .int .i64 f, .int .i64 g, .int .i64 h], .pointer (some ⟨w.heap.size, 0, none⟩), .pointer (some ⟨w.heap.size + 1, 0, none⟩), .pointer (some ⟨w.heap.size + 2, 0, none⟩), .pointer (some ⟨w.heap.size + 1, 0, none⟩), .int .i64 (5), .bool false, .bool false, undef, undef, undef, undef, undef, .bool false, .bool false, undef, undef, undef, undef, undef, .bool false, .bool false, undef, undef, undef, undef, .bool false, .bool false, undef, undef, .bool false, .bool false, undef, undef, undef, undef, undef, .bool true, .bool true, v40, v41, v42, v43, v44, undef], []⟩ ∧
      Hid (L 0 = true → v40 = .agg #[.int .i64 a, .int .i64 b, .int .i64 c, .int .i64 d]) ∧ Hid (L 1 = true → v41 = .pointer (some ⟨w.heap.size + 1, 4, none⟩)) ∧ Hid (L 2 = true → v42 = .agg #[.int .i64 e, .int .i64 f, .int .i64 g, .int .i64 h]) ∧ Hid (L 3 = true → v43 = .agg #[.int .i64 e, .int .i64 f, .int .i64 g, .int .i64 h]) ∧ Hid (L 4 = true → v44 = .agg #[.int .i64 m.x0, .int .i64 m.y0, .int .i64 m.x1, .int .i64 m.y1]) ∧ (Ats [(w.heap.size, 61, [.int .i64 a, .int .i64 b, .int .i64 c, .int .i64 d]), (w.heap.size + 1, 71, [.int .i64 (5), .int .i64 px, .int .i64 py, .int .i64 n, .int .i64 e, .int .i64 f, .int .i64 g, .int .i64 h]), (w.heap.size + 2, 61, [.int .i64 0, .int .i64 0, .int .i64 0, .int .i64 0])] w u)) ?_ ?_ ?_
  · refine ⟨_, _, _, _, _, rfl, (Lib.hid fun h => by cases h), (Lib.hid fun h => by cases h), (Lib.hid fun h => by cases h), (Lib.hid fun h => by cases h), (Lib.hid fun h => by cases h), ?_⟩
    refine Ats.cons ?_ (Ats.cons ?_ (Ats.cons ?_ (Ats.nil ?_)))
    · (repeat first | exact At.new' _ _ _ (by first | rfl | (simp only [size_alloc])) | refine At.drew ?_ | refine At.alloc ?_ _)
    · (repeat first | exact At.new' _ _ _ (by first | rfl | (simp only [size_alloc])) | refine At.drew ?_ | refine At.alloc ?_ _)
    · (repeat first | exact At.new' _ _ _ (by first | rfl | (simp only [size_alloc])) | refine At.drew ?_ | refine At.alloc ?_ _)
    · (repeat first | exact Below.refl _ _ | refine Below.drew ?_ | refine Below.alloc ?_ (by first | exact Nat.le_refl _ | (simp only [size_alloc]; omega)) _)
  · intro L a' u i hi hI hL hd
    obtain ⟨v40, v41, v42, v43, v44, rfl, k0, k1, k2, k3, k4, hW⟩ := hI
    obtain rfl | rfl | rfl | rfl | rfl : i = 0 ∨ i = 1 ∨ i = 2 ∨ i = 3 ∨ i = 4 := by omega
    · -- operation 0
      obtain ⟨c0, c1, c2, c3⟩ := (hW.nth 0 rfl).four.1
      have HW := Lib.hid hW
      clear hW hL hd
      refine wpOp_step rfl fun K hK => ?_
      go_simp
      refine hK _ _ ⟨_, _, _, _, _, rfl, (Lib.hid fun _ => rfl), k1, k2, k3, k4, HW.out⟩
    · -- operation 1
      have HW := Lib.hid hW
      clear hW hL hd
      refine wpOp_step rfl fun K hK => ?_
      go_simp
      refine hK _ _ ⟨_, _, _, _, _, rfl, k0, (Lib.hid fun _ => rfl), k2, k3, k4, HW.out⟩
    · -- operation 2
      obtain rfl := k1.out (hd 1 (by decide))
      obtain ⟨c0, c1, c2, c3, c4, c5, c6, c7⟩ := (hW.nth 1 rfl).eight.1
      have HW := Lib.hid hW
      clear hW hL hd
      refine wpOp_step rfl fun K hK => ?_
      go_simp
      refine hK _ _ ⟨_, _, _, _, _, rfl, k0, k1, (Lib.hid fun _ => rfl), k3, k4, HW.out⟩
    · -- operation 3
      obtain rfl := k2.out (hd 2 (by decide))
      have HW := Lib.hid hW
      clear hW hL hd
      refine wpOp_step rfl fun K hK => ?_
      go_simp
      go_at_call 31
      refine (rectangle_any _ _ _ _ _).mono ?_
      rintro _ w' ⟨rfl, hb⟩
      refine hK _ _ ⟨_, _, _, _, _, rfl, k0, k1, k2, (Lib.hid fun _ => rfl), k4, HW.out.by hb⟩
    · -- operation 4
      obtain rfl := k0.out (hd 0 (by decide))
      obtain rfl := k3.out (hd 3 (by decide))
      have HW := Lib.hid hW
      clear hW hL hd
      refine wpOp_step rfl fun K hK => ?_
      go_simp
      go_at_call 41
      refine (HM.out ▸ union_any a b c d e f g h _).mono ?_
      rintro _ w' ⟨rfl, hb⟩
      refine hK _ _ ⟨_, _, _, _, _, rfl, k0, k1, k2, k3, (Lib.hid fun _ => rfl), HW.out.by hb⟩
  intro L a' u hI hall
  obtain ⟨v40, v41, v42, v43, v44, rfl, k0, k1, k2, k3, k4, hW⟩ := hI
  obtain rfl := k0.out (hall 0 (by decide))
  obtain rfl := k1.out (hall 1 (by decide))
  obtain rfl := k2.out (hall 2 (by decide))
  obtain rfl := k3.out (hall 3 (by decide))
  obtain rfl := k4.out (hall 4 (by decide))
  clear k0 k1 k2 k3 k4 hall
  show wpOps _ _ _ [5] _ _
  obtain ⟨⟨c0, c1, c2, c3⟩, z0, z1, z2, z3⟩ := (hW.nth 2 rfl).four
  have HW := Lib.hid hW
  clear hW
  rw [wpOps_cons]
  refine wpOp_step rfl fun K hK => ?_
  go_simp
  refine hK _ _ ?_
  clear hK K
  unfold wpOps
  go_wp2
  exact bodyPost_ret (results_cell_row rfl _ _ (w.heap.size + 2) _ _ _ _ rfl ((HW.out.nth 2 rfl).set4 _ _ _ _) Try.underlying61 rfl (by kernel_rfl)) rfl (RetR.mk rfl (below_set4 HW.out.2 (by omega) _ _ _ _))

set_option maxHeartbeats 2000000 in
theorem stepped_2 (a b c d px py n e f g h : Int) (w : World) :
    Calls Try.prog 49 #[.agg #[.int .i64 a, .int .i64 b, .int .i64 c, .int .i64 d], .agg #[.int .i64 (2), .int .i64 px, .int .i64 py, .int .i64 n, .int .i64 e, .int .i64 f, .int .i64 g, .int .i64 h]] w (RetR (insetR ⟨a, b, c, d⟩ n) w) := by
  obtain ⟨m, hm⟩ : ∃ m, insetR ⟨a, b, c, d⟩ n = m := ⟨_, rfl⟩
  rw [hm]
  have HM := Lib.hid hm
  clear hm
  go_enter Try.func49, Try.ntmps49
  go_wp2_with fail
  refine (HM.out ▸ inset_any a b c d n _).mono ?_
  rintro _ w1 ⟨rfl, hb1⟩
  have h2 := (At.new ((w.alloc (.cells #[.int .i64 a, .int .i64 b, .int .i64 c, .int .i64 d] 61)).alloc (.cells #[.int .i64 (2), .int .i64 px, .int .i64 py, .int .i64 n, .int .i64 e, .int .i64 f, .int .i64 g, .int .i64 h] 71)) 61 [.int .i64 0, .int .i64 0, .int .i64 0, .int .i64 0]).by hb1
  simp only [size_alloc] at h2
  have HB := Lib.hid ((three_new w _ _ _).trans (hb1.mono (by simp only [size_alloc]; omega)))
  obtain ⟨⟨c0, c1, c2, c3⟩, z0, z1, z2, z3⟩ := h2.four
  have H2 := Lib.hid h2
  clear h2 hb1
  go_wp2
  exact bodyPost_ret (results_cell_row rfl _ _ (w.heap.size + 2) _ _ _ _ rfl (H2.out.set4 _ _ _ _) Try.underlying61 rfl (by kernel_rfl)) rfl (RetR.mk rfl (below_set4 HB.out (by omega) _ _ _ _))

set_option maxHeartbeats 2000000 in
theorem stepped_3 (a b c d px py n e f g h : Int) (w : World) :
    Calls Try.prog 49 #[.agg #[.int .i64 a, .int .i64 b, .int .i64 c, .int .i64 d], .agg #[.int .i64 (3), .int .i64 px, .int .i64 py, .int .i64 n, .int .i64 e, .int .i64 f, .int .i64 g, .int .i64 h]] w (RetR (canonR ⟨a, b, c, d⟩) w) := by
  obtain ⟨m, hm⟩ : ∃ m, canonR ⟨a, b, c, d⟩ = m := ⟨_, rfl⟩
  rw [hm]
  have HM := Lib.hid hm
  clear hm
  go_enter Try.func49, Try.ntmps49
  go_wp2_with fail
  refine (HM.out ▸ canon_any a b c d _).mono ?_
  rintro _ w1 ⟨rfl, hb1⟩
  have h2 := (At.new ((w.alloc (.cells #[.int .i64 a, .int .i64 b, .int .i64 c, .int .i64 d] 61)).alloc (.cells #[.int .i64 (3), .int .i64 px, .int .i64 py, .int .i64 n, .int .i64 e, .int .i64 f, .int .i64 g, .int .i64 h] 71)) 61 [.int .i64 0, .int .i64 0, .int .i64 0, .int .i64 0]).by hb1
  simp only [size_alloc] at h2
  have HB := Lib.hid ((three_new w _ _ _).trans (hb1.mono (by simp only [size_alloc]; omega)))
  obtain ⟨⟨c0, c1, c2, c3⟩, z0, z1, z2, z3⟩ := h2.four
  have H2 := Lib.hid h2
  clear h2 hb1
  go_wp2
  exact bodyPost_ret (results_cell_row rfl _ _ (w.heap.size + 2) _ _ _ _ rfl (H2.out.set4 _ _ _ _) Try.underlying61 rfl (by kernel_rfl)) rfl (RetR.mk rfl (below_set4 HB.out (by omega) _ _ _ _))

set_option maxHeartbeats 2000000 in
theorem stepped_other (op a b c d px py n e f g h : Int) (w : World) (h0 : ¬ op = 0) (h1 : ¬ op = 1) (h2 : ¬ op = 2) (h3 : ¬ op = 3) (h4 : ¬ op = 4) (h5 : ¬ op = 5) :
    Calls Try.prog 49 #[.agg #[.int .i64 a, .int .i64 b, .int .i64 c, .int .i64 d], .agg #[.int .i64 op, .int .i64 px, .int .i64 py, .int .i64 n, .int .i64 e, .int .i64 f, .int .i64 g, .int .i64 h]] w (RetR ⟨a, b, c, d⟩ w) := by
  have b0 : (op == 0) = false := by simpa using h0
  have b1 : (op == 1) = false := by simpa using h1
  have b2 : (op == 2) = false := by simpa using h2
  have b3 : (op == 3) = false := by simpa using h3
  have b4 : (op == 4) = false := by simpa using h4
  have b5 : (op == 5) = false := by simpa using h5
  clear h0 h1 h2 h3 h4 h5
  go_enter Try.func49, Try.ntmps49
  go_wp2
  exact bodyPost_ret (results_cell_row rfl _ _ (w.heap.size + 2) _ _ _ _ rfl (heap_last3 _ _ _ _) Try.underlying61 rfl (by kernel_rfl)) rfl (RetR.mk rfl (three_new _ _ _ _))

theorem stepped_any (op a b c d px py n e f g h : Int) (w : World) :
    Calls Try.prog 49 #[.agg #[.int .i64 a, .int .i64 b, .int .i64 c, .int .i64 d], .agg #[.int .i64 op, .int .i64 px, .int .i64 py, .int .i64 n, .int .i64 e, .int .i64 f, .int .i64 g, .int .i64 h]] w (RetR (stepR op px py n ⟨e, f, g, h⟩ ⟨a, b, c, d⟩) w) := by
  unfold stepR
  by_cases h0 : op = 0
  · subst h0
    exact stepped_0 a b c d px py n e f g h w
  by_cases h1 : op = 1
  · subst h1
    exact stepped_1 a b c d px py n e f g h w
  by_cases h2 : op = 2
  · subst h2
    exact stepped_2 a b c d px py n e f g h w
  by_cases h3 : op = 3
  · subst h3
    exact stepped_3 a b c d px py n e f g h w
  by_cases h4 : op = 4
  · subst h4
    exact stepped_4 a b c d px py n e f g h w
  by_cases h5 : op = 5
  · subst h5
    exact stepped_5 a b c d px py n e f g h w
  rw [if_neg h0, if_neg h1, if_neg h2, if_neg h3, if_neg h4, if_neg h5]
  exact stepped_other op a b c d px py n e f g h w h0 h1 h2 h3 h4 h5
end Go.Proofs.Ytojplcchoffapaa
