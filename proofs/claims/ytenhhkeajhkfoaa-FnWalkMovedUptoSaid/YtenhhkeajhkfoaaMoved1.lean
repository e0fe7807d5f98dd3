/- The contracts of the reference's function HasPoints and of the closure of FnWalkMoved. Conditions: none. -/
import Derived.Test.YtenhhkeajhkfoaaNums
import Derived.Test.YtenhhkeajhkfoaaMoves
import Derived.Test.YtenhhkeajhkfoaaAts
import Derived.Test.YtenhhkeajhkfoaaSmall
namespace Go.Proofs.Ytenhhkeajhkfoaa
open Go.RowKit

/-- the slice v holds four numbers -/
def Nums4 (u : World) (v : Value) (a b c d : Int) : Prop := ∃ g, v = .slice (some ⟨g, 0, none⟩) 4 4 ∧ At u g 3 [.int .i64 a, .int .i64 b, .int .i64 c, .int .i64 d]
theorem Nums4.by {u u' : World} {v : Value} {a b c d : Int} (h : Nums4 u v a b c d) (hb : Below u.heap.size u u') : Nums4 u' v a b c d := by
  obtain ⟨g, e, hg⟩ := h
  exact ⟨g, e, hg.by hb⟩
theorem numbers4_any (a b c d : Int) (w : World) : Calls Try.prog 26 #[.agg #[.int .i64 a, .int .i64 b, .int .i64 c, .int .i64 d]] w fun e w' => ∃ v, e = .returned v ∧ Nums4 w' v a b c d ∧ Below w.heap.size w w' :=
  (numbers_any a b c d w).mono fun _ _ ⟨g, h1, h2, h3⟩ => ⟨_, h1, ⟨g, rfl, h2⟩, h3⟩

set_option maxHeartbeats 1000000 in
theorem haspoints_any (g : Nat) (a b c d : Int) (w : World) (hg : At w g 3 [.int .i64 a, .int .i64 b, .int .i64 c, .int .i64 d]) :
    Calls Try.prog 25 #[.slice (some ⟨g, 0, none⟩) 4 4] w fun e w' => e = .returned (.bool (!emptyB a b c d)) ∧ Below w.heap.size w w' := by
  obtain ⟨c0, c1, c2, c3⟩ := hg.four.1
  clear hg
  by_cases h : a < c
  · go_enter Try.func25, Try.ntmps25
    go_wp2
    go_region
    go_wp2
    go_ret
    exact ⟨ret_bool (by simp only [emptyB]; rw [decide_eq_false (show ¬ c ≤ a by omega), Bool.false_or, Bool.eq_iff_iff]; simp), (Below.refl _ _).drew⟩
  · have hd : decide (a < c) = false := decide_eq_false h
    go_enter Try.func25, Try.ntmps25
    go_wp2
    go_region
    go_wp2
    go_ret
    exact ⟨ret_bool (by simp only [emptyB]; rw [decide_eq_true (show c ≤ a by omega)]; rfl), (Below.refl _ _).drew⟩
theorem ifs4 {α : Type} {a b c d : Prop} [Decidable a] [Decidable b] [Decidable c] [Decidable d] (x y : α) (h : ¬ (a ∧ b ∧ c ∧ d)) : (if a then if b then if c then if d then x else y else y else y else y) = y := by
  by_cases ha : a
  · rw [if_pos ha]
    by_cases hb : b
    · rw [if_pos hb]
      by_cases hc : c
      · rw [if_pos hc, if_neg (fun hd => h ⟨ha, hb, hc, hd⟩)]
      · rw [if_neg hc]
    · rw [if_neg hb]
  · rw [if_neg ha]
theorem haspoints_eq (v : Value) (a b c d : Int) (w : World) (hg : Nums4 w v a b c d) {r : Bool} (hr : (!emptyB a b c d) = r) :
    Calls Try.prog 25 #[v] w fun e w' => e = .returned (.bool r) ∧ Below w.heap.size w w' := by
  obtain ⟨g, rfl, hg⟩ := hg
  exact (haspoints_any g a b c d w hg).mono fun _ _ ⟨h1, h2⟩ => ⟨hr ▸ h1, h2⟩

set_option maxHeartbeats 1000000 in
theorem moved1_t (p q s t p' q' s' t' x y : Int) (g12 g13 : Nat) (w : World) (h12 : At w g12 3 [.int .i64 x]) (h13 : At w g13 3 [.int .i64 y])
    (hm : ∀ u, Calls Try.prog 23 #[.agg #[.int .i64 p, .int .i64 q, .int .i64 s, .int .i64 t], .int .i64 x, .int .i64 y] u fun e u' => e = .returned (.agg #[.int .i64 p', .int .i64 q', .int .i64 s', .int .i64 t']) ∧ Below u.heap.size u u') :
    Calls Try.prog 24 #[.agg #[.int .i64 p, .int .i64 q, .int .i64 s, .int .i64 t], .agg #[.int .i64 p', .int .i64 q', .int .i64 s', .int .i64 t'], .pointer (some ⟨g12, 0, none⟩), .pointer (some ⟨g13, 0, none⟩)] w fun e w' => e = .returned (.bool true) ∧ Below w.heap.size w w' := by
  have H12 := Lib.hid h12
  have H13 := Lib.hid h13
  have HM := Lib.hid hm
  clear h12 h13 hm
  go_enter Try.func24, Try.ntmps24
  go_wp2_with fail
  refine wp_region_tail [[], [], [], [0, 1, 2], [], [0, 1, 2, 3, 4], [0, 1, 2, 3, 4, 5], [0, 1, 2, 3, 4, 5, 6], [0, 1, 2, 3, 4, 5, 6, 7], [0, 1, 2, 3, 4, 5, 6, 7, 8], [0, 1, 2, 3, 4, 5, 6, 7, 8, 9], [0, 1, 2, 3, 4, 5, 6, 7, 8, 9, 10], [0, 1, 2, 3, 4, 5, 6, 7, 8, 9, 10, 11], [0, 1, 2, 3, 4, 5, 6, 7, 8, 9, 10, 11, 12], [0, 1, 2, 3, 4, 5, 6, 7, 8, 9, 10, 11, 12, 13], [0, 1, 2, 3, 4, 5, 6, 7, 8, 9, 10, 11, 12, 13, 14], [0, 1, 2, 3, 4, 5, 6, 7, 8, 9, 10, 11, 12, 13, 14, 15], [0, 1, 2, 3, 4, 5, 6, 7, 8, 9, 10, 11, 12, 13, 14, 15, 16], [0, 1, 2, 3, 4, 5, 6, 7, 8, 9, 10, 11, 12, 13, 14, 15, 16, 17]] (by kernel_rfl) (by kernel_rfl) 19 rfl (by decide) (by decide) (by kernel_rfl)
    (fun L a' u => ∃ v6 v7 v8 v9 v10 v11 v12 v13 v14 v15 v16 v17 v18 v19 v20 v21 v22 v23 v24 : Value, a' = ⟨#[.agg #[.int .i64 p, .int .i64 q, .int .i64 s, .int .i64 t], .agg #[.int .i64 p', .int .i64 q', .int .i64 s', .int .i64 t'], .pointer (some ⟨g12, 0, none⟩), .pointer (some ⟨g13, 0, none⟩), .pointer (some ⟨w.heap.size, 0, none⟩), .pointer (some ⟨w.heap.size + 1, 0, none⟩), v6, v7, v8, v9, v10, v11, v12, v13, v14, v15, v16, v17, v18, v19, v20, v21, v22, v23, v24], []⟩ ∧
      Hid (L 0 = true → v7 = .agg #[.int .i64 p, .int .i64 q, .int .i64 s, .int .i64 t]) ∧ Hid (L 1 = true → v8 = .int .i64 x) ∧ Hid (L 2 = true → v9 = .int .i64 y) ∧ Hid (L 3 = true → v10 = .agg #[.int .i64 p', .int .i64 q', .int .i64 s', .int .i64 t']) ∧ Hid (L 4 = true → v11 = .agg #[.int .i64 p', .int .i64 q', .int .i64 s', .int .i64 t']) ∧ Hid (L 5 = true → v12 = .bool true) ∧ Hid (L 6 = true → v13 = .bool true) ∧ Hid (L 7 = true → v14 = undef) ∧ Hid (L 8 = true → v15 = undef) ∧ Hid (L 9 = true → v16 = undef) ∧ Hid (L 10 = true → v17 = undef) ∧ Hid (L 11 = true → v18 = undef) ∧ Hid (L 12 = true → v19 = undef) ∧ Hid (L 13 = true → v20 = undef) ∧ Hid (L 14 = true → v21 = undef) ∧ Hid (L 15 = true → v22 = undef) ∧ Hid (L 16 = true → v23 = undef) ∧ Hid (L 17 = true → v24 = .bool true) ∧ Hid (L 18 = true → v6 = .bool true) ∧ (Ats [(g12, 3, [.int .i64 x]), (g13, 3, [.int .i64 y]), (w.heap.size, 25, [.int .i64 p, .int .i64 q, .int .i64 s, .int .i64 t]), (w.heap.size + 1, 25, [.int .i64 p', .int .i64 q', .int .i64 s', .int .i64 t'])] w u)) ?_ ?_ ?_
  · refine ⟨_, _, _, _, _, _, _, _, _, _, _, _, _, _, _, _, _, _, _, rfl, (Lib.hid fun h => by cases h), (Lib.hid fun h => by cases h), (Lib.hid fun h => by cases h), (Lib.hid fun h => by cases h), (Lib.hid fun h => by cases h), (Lib.hid fun h => by cases h), (Lib.hid fun h => by cases h), (Lib.hid fun h => by cases h), (Lib.hid fun h => by cases h), (Lib.hid fun h => by cases h), (Lib.hid fun h => by cases h), (Lib.hid fun h => by cases h), (Lib.hid fun h => by cases h), (Lib.hid fun h => by cases h), (Lib.hid fun h => by cases h), (Lib.hid fun h => by cases h), (Lib.hid fun h => by cases h), (Lib.hid fun h => by cases h), (Lib.hid fun h => by cases h), ?_⟩
    refine Ats.cons ?_ (Ats.cons ?_ (Ats.cons ?_ (Ats.cons ?_ (Ats.nil ?_))))
    · exact ((H12.out.alloc _).alloc _).drew
    · exact ((H13.out.alloc _).alloc _).drew
    · (repeat first | exact At.new' _ _ _ (by first | rfl | (simp only [size_alloc])) | refine At.drew ?_ | refine At.alloc ?_ _)
    · (repeat first | exact At.new' _ _ _ (by first | rfl | (simp only [size_alloc])) | refine At.drew ?_ | refine At.alloc ?_ _)
    · (repeat first | exact Below.refl _ _ | refine Below.drew ?_ | refine Below.alloc ?_ (by first | exact Nat.le_refl _ | (simp only [size_alloc]; omega)) _)
  · intro L a' u i hi hI hL hd
    obtain ⟨v6, v7, v8, v9, v10, v11, v12, v13, v14, v15, v16, v17, v18, v19, v20, v21, v22, v23, v24, rfl, k0, k1, k2, k3, k4, k5, k6, k7, k8, k9, k10, k11, k12, k13, k14, k15, k16, k17, k18, hW⟩ := hI
    obtain rfl | rfl | rfl | rfl | rfl | rfl | rfl | rfl | rfl | rfl | rfl | rfl | rfl | rfl | rfl | rfl | rfl | rfl | rfl : i = 0 ∨ i = 1 ∨ i = 2 ∨ i = 3 ∨ i = 4 ∨ i = 5 ∨ i = 6 ∨ i = 7 ∨ i = 8 ∨ i = 9 ∨ i = 10 ∨ i = 11 ∨ i = 12 ∨ i = 13 ∨ i = 14 ∨ i = 15 ∨ i = 16 ∨ i = 17 ∨ i = 18 := by omega
    · -- operation 0
      obtain ⟨c0, c1, c2, c3⟩ := (hW.nth 2 rfl).four.1
      have HW := Lib.hid hW
      clear hW hL hd
      refine wpOp_step rfl fun K hK => ?_
      go_simp
      refine hK _ _ ⟨_, _, _, _, _, _, _, _, _, _, _, _, _, _, _, _, _, _, _, rfl, (Lib.hid fun _ => rfl), k1, k2, k3, k4, k5, k6, k7, k8, k9, k10, k11, k12, k13, k14, k15, k16, k17, k18, HW.out⟩
    · -- operation 1
      have c0 := (hW.nth 0 rfl).cell 0
      have HW := Lib.hid hW
      clear hW hL hd
      refine wpOp_step rfl fun K hK => ?_
      go_simp
      refine hK _ _ ⟨_, _, _, _, _, _, _, _, _, _, _, _, _, _, _, _, _, _, _, rfl, k0, (Lib.hid fun _ => rfl), k2, k3, k4, k5, k6, k7, k8, k9, k10, k11, k12, k13, k14, k15, k16, k17, k18, HW.out⟩
    · -- operation 2
      have c0 := (hW.nth 1 rfl).cell 0
      have HW := Lib.hid hW
      clear hW hL hd
      refine wpOp_step rfl fun K hK => ?_
      go_simp
      refine hK _ _ ⟨_, _, _, _, _, _, _, _, _, _, _, _, _, _, _, _, _, _, _, rfl, k0, k1, (Lib.hid fun _ => rfl), k3, k4, k5, k6, k7, k8, k9, k10, k11, k12, k13, k14, k15, k16, k17, k18, HW.out⟩
    · -- operation 3
      obtain rfl := k0.out (hd 0 (by decide))
      obtain rfl := k1.out (hd 1 (by decide))
      obtain rfl := k2.out (hd 2 (by decide))
      have HW := Lib.hid hW
      clear hW hL hd
      refine wpOp_step rfl fun K hK => ?_
      go_simp
      go_at_call 23
      refine (HM.out _).mono ?_
      rintro _ w' ⟨rfl, hb⟩
      refine hK _ _ ⟨_, _, _, _, _, _, _, _, _, _, _, _, _, _, _, _, _, _, _, rfl, k0, k1, k2, (Lib.hid fun _ => rfl), k4, k5, k6, k7, k8, k9, k10, k11, k12, k13, k14, k15, k16, k17, k18, HW.out.by hb⟩
    · -- operation 4
      obtain ⟨c0, c1, c2, c3⟩ := (hW.nth 3 rfl).four.1
      have HW := Lib.hid hW
      clear hW hL hd
      refine wpOp_step rfl fun K hK => ?_
      go_simp
      refine hK _ _ ⟨_, _, _, _, _, _, _, _, _, _, _, _, _, _, _, _, _, _, _, rfl, k0, k1, k2, k3, (Lib.hid fun _ => rfl), k5, k6, k7, k8, k9, k10, k11, k12, k13, k14, k15, k16, k17, k18, HW.out⟩
    · -- operation 5
      obtain rfl := k3.out (hd 3 (by decide))
      obtain rfl := k4.out (hd 4 (by decide))
      have HW := Lib.hid hW
      clear hW hL hd
      refine wpOp_step rfl fun K hK => ?_
      go_simp
      refine hK _ _ ⟨_, _, _, _, _, _, _, _, _, _, _, _, _, _, _, _, _, _, _, rfl, k0, k1, k2, k3, k4, (Lib.hid fun _ => rfl), k6, k7, k8, k9, k10, k11, k12, k13, k14, k15, k16, k17, k18, HW.out⟩
    · -- operation 6
      obtain rfl := k5.out (hd 5 (by decide))
      have HW := Lib.hid hW
      clear hW hL hd
      refine wpOp_step rfl fun K hK => ?_
      go_simp
      refine hK _ _ ⟨_, _, _, _, _, _, _, _, _, _, _, _, _, _, _, _, _, _, _, rfl, k0, k1, k2, k3, k4, k5, (Lib.hid fun _ => rfl), k7, k8, k9, k10, k11, k12, k13, k14, k15, k16, k17, k18, HW.out⟩
    · -- operation 7
      obtain rfl := k6.out (hd 6 (by decide))
      have HW := Lib.hid hW
      clear hW hL hd
      refine wpOp_step rfl fun K hK => ?_
      go_simp
      refine hK _ _ ⟨_, _, _, _, _, _, _, _, _, _, _, _, _, _, _, _, _, _, _, rfl, k0, k1, k2, k3, k4, k5, k6, (Lib.hid fun _ => rfl), k8, k9, k10, k11, k12, k13, k14, k15, k16, k17, k18, HW.out⟩
    · -- operation 8
      obtain rfl := k6.out (hd 6 (by decide))
      obtain rfl := k7.out (hd 7 (by decide))
      have HW := Lib.hid hW
      clear hW hL hd
      refine wpOp_step rfl fun K hK => ?_
      go_simp
      refine hK _ _ ⟨_, _, _, _, _, _, _, _, _, _, _, _, _, _, _, _, _, _, _, rfl, k0, k1, k2, k3, k4, k5, k6, k7, (Lib.hid fun _ => rfl), k9, k10, k11, k12, k13, k14, k15, k16, k17, k18, HW.out⟩
    · -- operation 9
      obtain rfl := k6.out (hd 6 (by decide))
      obtain rfl := k8.out (hd 8 (by decide))
      have HW := Lib.hid hW
      clear hW hL hd
      refine wpOp_step rfl fun K hK => ?_
      go_simp
      refine hK _ _ ⟨_, _, _, _, _, _, _, _, _, _, _, _, _, _, _, _, _, _, _, rfl, k0, k1, k2, k3, k4, k5, k6, k7, k8, (Lib.hid fun _ => rfl), k10, k11, k12, k13, k14, k15, k16, k17, k18, HW.out⟩
    · -- operation 10
      obtain rfl := k6.out (hd 6 (by decide))
      obtain rfl := k9.out (hd 9 (by decide))
      have HW := Lib.hid hW
      clear hW hL hd
      refine wpOp_step rfl fun K hK => ?_
      go_simp
      refine hK _ _ ⟨_, _, _, _, _, _, _, _, _, _, _, _, _, _, _, _, _, _, _, rfl, k0, k1, k2, k3, k4, k5, k6, k7, k8, k9, (Lib.hid fun _ => rfl), k11, k12, k13, k14, k15, k16, k17, k18, HW.out⟩
    · -- operation 11
      obtain rfl := k6.out (hd 6 (by decide))
      obtain rfl := k10.out (hd 10 (by decide))
      have HW := Lib.hid hW
      clear hW hL hd
      refine wpOp_step rfl fun K hK => ?_
      go_simp
      refine hK _ _ ⟨_, _, _, _, _, _, _, _, _, _, _, _, _, _, _, _, _, _, _, rfl, k0, k1, k2, k3, k4, k5, k6, k7, k8, k9, k10, (Lib.hid fun _ => rfl), k12, k13, k14, k15, k16, k17, k18, HW.out⟩
    · -- operation 12
      obtain rfl := k11.out (hd 11 (by decide))
      have HW := Lib.hid hW
      clear hW hL hd
      refine wpOp_step rfl fun K hK => ?_
      go_simp
      refine hK _ _ ⟨_, _, _, _, _, _, _, _, _, _, _, _, _, _, _, _, _, _, _, rfl, k0, k1, k2, k3, k4, k5, k6, k7, k8, k9, k10, k11, (Lib.hid fun _ => rfl), k13, k14, k15, k16, k17, k18, HW.out⟩
    · -- operation 13
      obtain rfl := k11.out (hd 11 (by decide))
      obtain rfl := k12.out (hd 12 (by decide))
      have HW := Lib.hid hW
      clear hW hL hd
      refine wpOp_step rfl fun K hK => ?_
      go_simp
      refine hK _ _ ⟨_, _, _, _, _, _, _, _, _, _, _, _, _, _, _, _, _, _, _, rfl, k0, k1, k2, k3, k4, k5, k6, k7, k8, k9, k10, k11, k12, (Lib.hid fun _ => rfl), k14, k15, k16, k17, k18, HW.out⟩
    · -- operation 14
      obtain rfl := k11.out (hd 11 (by decide))
      obtain rfl := k13.out (hd 13 (by decide))
      have HW := Lib.hid hW
      clear hW hL hd
      refine wpOp_step rfl fun K hK => ?_
      go_simp
      refine hK _ _ ⟨_, _, _, _, _, _, _, _, _, _, _, _, _, _, _, _, _, _, _, rfl, k0, k1, k2, k3, k4, k5, k6, k7, k8, k9, k10, k11, k12, k13, (Lib.hid fun _ => rfl), k15, k16, k17, k18, HW.out⟩
    · -- operation 15
      obtain rfl := k11.out (hd 11 (by decide))
      obtain rfl := k14.out (hd 14 (by decide))
      have HW := Lib.hid hW
      clear hW hL hd
      refine wpOp_step rfl fun K hK => ?_
      go_simp
      refine hK _ _ ⟨_, _, _, _, _, _, _, _, _, _, _, _, _, _, _, _, _, _, _, rfl, k0, k1, k2, k3, k4, k5, k6, k7, k8, k9, k10, k11, k12, k13, k14, (Lib.hid fun _ => rfl), k16, k17, k18, HW.out⟩
    · -- operation 16
      obtain rfl := k6.out (hd 6 (by decide))
      obtain rfl := k11.out (hd 11 (by decide))
      obtain rfl := k15.out (hd 15 (by decide))
      have HW := Lib.hid hW
      clear hW hL hd
      refine wpOp_step rfl fun K hK => ?_
      go_simp
      refine hK _ _ ⟨_, _, _, _, _, _, _, _, _, _, _, _, _, _, _, _, _, _, _, rfl, k0, k1, k2, k3, k4, k5, k6, k7, k8, k9, k10, k11, k12, k13, k14, k15, (Lib.hid fun _ => rfl), k17, k18, HW.out⟩
    · -- operation 17
      obtain rfl := k6.out (hd 6 (by decide))
      obtain rfl := k16.out (hd 16 (by decide))
      have HW := Lib.hid hW
      clear hW hL hd
      refine wpOp_step rfl fun K hK => ?_
      go_simp
      refine hK _ _ ⟨_, _, _, _, _, _, _, _, _, _, _, _, _, _, _, _, _, _, _, rfl, k0, k1, k2, k3, k4, k5, k6, k7, k8, k9, k10, k11, k12, k13, k14, k15, k16, (Lib.hid fun _ => rfl), k18, HW.out⟩
    · -- operation 18
      obtain rfl := k17.out (hd 17 (by decide))
      have HW := Lib.hid hW
      clear hW hL hd
      refine wpOp_step rfl fun K hK => ?_
      go_simp
      refine hK _ _ ⟨_, _, _, _, _, _, _, _, _, _, _, _, _, _, _, _, _, _, _, rfl, k0, k1, k2, k3, k4, k5, k6, k7, k8, k9, k10, k11, k12, k13, k14, k15, k16, k17, (Lib.hid fun _ => rfl), HW.out⟩
  intro L a' u hI hall
  obtain ⟨v6, v7, v8, v9, v10, v11, v12, v13, v14, v15, v16, v17, v18, v19, v20, v21, v22, v23, v24, rfl, k0, k1, k2, k3, k4, k5, k6, k7, k8, k9, k10, k11, k12, k13, k14, k15, k16, k17, k18, hW⟩ := hI
  obtain rfl := k0.out (hall 0 (by decide))
  obtain rfl := k1.out (hall 1 (by decide))
  obtain rfl := k2.out (hall 2 (by decide))
  obtain rfl := k3.out (hall 3 (by decide))
  obtain rfl := k4.out (hall 4 (by decide))
  obtain rfl := k5.out (hall 5 (by decide))
  obtain rfl := k6.out (hall 6 (by decide))
  obtain rfl := k7.out (hall 7 (by decide))
  obtain rfl := k8.out (hall 8 (by decide))
  obtain rfl := k9.out (hall 9 (by decide))
  obtain rfl := k10.out (hall 10 (by decide))
  obtain rfl := k11.out (hall 11 (by decide))
  obtain rfl := k12.out (hall 12 (by decide))
  obtain rfl := k13.out (hall 13 (by decide))
  obtain rfl := k14.out (hall 14 (by decide))
  obtain rfl := k15.out (hall 15 (by decide))
  obtain rfl := k16.out (hall 16 (by decide))
  obtain rfl := k17.out (hall 17 (by decide))
  obtain rfl := k18.out (hall 18 (by decide))
  clear k0 k1 k2 k3 k4 k5 k6 k7 k8 k9 k10 k11 k12 k13 k14 k15 k16 k17 k18 hall
  show wpOps _ _ _ [] _ _
  unfold wpOps
  have HW := Lib.hid hW
  clear hW
  go_wp2
  go_ret
  exact ⟨rfl, HW.out.2⟩

set_option maxHeartbeats 1000000 in
theorem moved1_f (p q s t p' q' s' t' m0 m1 m2 m3 x y : Int) (g12 g13 : Nat) (w : World) (h12 : At w g12 3 [.int .i64 x]) (h13 : At w g13 3 [.int .i64 y])
    (hm : ∀ u, Calls Try.prog 23 #[.agg #[.int .i64 p, .int .i64 q, .int .i64 s, .int .i64 t], .int .i64 x, .int .i64 y] u fun e u' => e = .returned (.agg #[.int .i64 m0, .int .i64 m1, .int .i64 m2, .int .i64 m3]) ∧ Below u.heap.size u u')
    (hne : ¬ (m0 = p' ∧ m1 = q' ∧ m2 = s' ∧ m3 = t')) (he1 : emptyB p q s t = true) (he2 : emptyB p' q' s' t' = true) :
    Calls Try.prog 24 #[.agg #[.int .i64 p, .int .i64 q, .int .i64 s, .int .i64 t], .agg #[.int .i64 p', .int .i64 q', .int .i64 s', .int .i64 t'], .pointer (some ⟨g12, 0, none⟩), .pointer (some ⟨g13, 0, none⟩)] w fun e w' => e = .returned (.bool true) ∧ Below w.heap.size w w' := by
  have H12 := Lib.hid h12
  have H13 := Lib.hid h13
  have HM := Lib.hid hm
  have HE1 : Hid ((!emptyB p q s t) = false) := Lib.hid (by rw [he1]; rfl)
  have HE2 : Hid ((!emptyB p' q' s' t') = false) := Lib.hid (by rw [he2]; rfl)
  have HEQ := Lib.hid hne
  clear h12 h13 hm he1 he2 hne
  go_enter Try.func24, Try.ntmps24
  go_wp2_with fail
  refine wp_region_tail [[], [], [], [0, 1, 2], [], [0, 1, 2, 3, 4], [0, 1, 2, 3, 4, 5], [0, 1, 2, 3, 4, 5, 6], [0, 1, 2, 3, 4, 5, 6, 7], [0, 1, 2, 3, 4, 5, 6, 7, 8], [0, 1, 2, 3, 4, 5, 6, 7, 8, 9], [0, 1, 2, 3, 4, 5, 6, 7, 8, 9, 10], [0, 1, 2, 3, 4, 5, 6, 7, 8, 9, 10, 11], [0, 1, 2, 3, 4, 5, 6, 7, 8, 9, 10, 11, 12], [0, 1, 2, 3, 4, 5, 6, 7, 8, 9, 10, 11, 12, 13], [0, 1, 2, 3, 4, 5, 6, 7, 8, 9, 10, 11, 12, 13, 14], [0, 1, 2, 3, 4, 5, 6, 7, 8, 9, 10, 11, 12, 13, 14, 15], [0, 1, 2, 3, 4, 5, 6, 7, 8, 9, 10, 11, 12, 13, 14, 15, 16], [0, 1, 2, 3, 4, 5, 6, 7, 8, 9, 10, 11, 12, 13, 14, 15, 16, 17]] (by kernel_rfl) (by kernel_rfl) 19 rfl (by decide) (by decide) (by kernel_rfl)
    (fun L a' u => ∃ v6 v7 v8 v9 v10 v11 v12 v13 v14 v15 v16 v17 v18 v19 v20 v21 v22 v23 v24 : Value, a' = ⟨#[.agg #[.int .i64 p, .int .i64 q, .int .i64 s, .int .i64 t], .agg #[.int .i64 p', .int .i64 q', .int .i64 s', .int .i64 t'], .pointer (some ⟨g12, 0, none⟩), .pointer (some ⟨g13, 0, none⟩), .pointer (some ⟨w.heap.size, 0, none⟩), .pointer (some ⟨w.heap.size + 1, 0, none⟩), v6, v7, v8, v9, v10, v11, v12, v13, v14, v15, v16, v17, v18, v19, v20, v21, v22, v23, v24], []⟩ ∧
      Hid (L 0 = true → v7 = .agg #[.int .i64 p, .int .i64 q, .int .i64 s, .int .i64 t]) ∧ Hid (L 1 = true → v8 = .int .i64 x) ∧ Hid (L 2 = true → v9 = .int .i64 y) ∧ Hid (L 3 = true → v10 = .agg #[.int .i64 m0, .int .i64 m1, .int .i64 m2, .int .i64 m3]) ∧ Hid (L 4 = true → v11 = .agg #[.int .i64 p', .int .i64 q', .int .i64 s', .int .i64 t']) ∧ Hid (L 5 = true → v12 = .bool false) ∧ Hid (L 6 = true → v13 = .bool false) ∧ Hid (L 7 = true → v14 = .agg #[.int .i64 p, .int .i64 q, .int .i64 s, .int .i64 t]) ∧ Hid (L 8 = true → Nums4 u v15 p q s t) ∧ Hid (L 9 = true → v16 = .bool false) ∧ Hid (L 10 = true → v17 = .bool true) ∧ Hid (L 11 = true → v18 = .bool true) ∧ Hid (L 12 = true → v19 = .agg #[.int .i64 p', .int .i64 q', .int .i64 s', .int .i64 t']) ∧ Hid (L 13 = true → Nums4 u v20 p' q' s' t') ∧ Hid (L 14 = true → v21 = .bool false) ∧ Hid (L 15 = true → v22 = .bool true) ∧ Hid (L 16 = true → v23 = .bool true) ∧ Hid (L 17 = true → v24 = .bool true) ∧ Hid (L 18 = true → v6 = .bool true) ∧ (Ats [(g12, 3, [.int .i64 x]), (g13, 3, [.int .i64 y]), (w.heap.size, 25, [.int .i64 p, .int .i64 q, .int .i64 s, .int .i64 t]), (w.heap.size + 1, 25, [.int .i64 p', .int .i64 q', .int .i64 s', .int .i64 t'])] w u)) ?_ ?_ ?_
  · refine ⟨_, _, _, _, _, _, _, _, _, _, _, _, _, _, _, _, _, _, _, rfl, (Lib.hid fun h => by cases h), (Lib.hid fun h => by cases h), (Lib.hid fun h => by cases h), (Lib.hid fun h => by cases h), (Lib.hid fun h => by cases h), (Lib.hid fun h => by cases h), (Lib.hid fun h => by cases h), (Lib.hid fun h => by cases h), (Lib.hid fun h => by cases h), (Lib.hid fun h => by cases h), (Lib.hid fun h => by cases h), (Lib.hid fun h => by cases h), (Lib.hid fun h => by cases h), (Lib.hid fun h => by cases h), (Lib.hid fun h => by cases h), (Lib.hid fun h => by cases h), (Lib.hid fun h => by cases h), (Lib.hid fun h => by cases h), (Lib.hid fun h => by cases h), ?_⟩
    refine Ats.cons ?_ (Ats.cons ?_ (Ats.cons ?_ (Ats.cons ?_ (Ats.nil ?_))))
    · exact ((H12.out.alloc _).alloc _).drew
    · exact ((H13.out.alloc _).alloc _).drew
    · (repeat first | exact At.new' _ _ _ (by first | rfl | (simp only [size_alloc])) | refine At.drew ?_ | refine At.alloc ?_ _)
    · (repeat first | exact At.new' _ _ _ (by first | rfl | (simp only [size_alloc])) | refine At.drew ?_ | refine At.alloc ?_ _)
    · (repeat first | exact Below.refl _ _ | refine Below.drew ?_ | refine Below.alloc ?_ (by first | exact Nat.le_refl _ | (simp only [size_alloc]; omega)) _)
  · intro L a' u i hi hI hL hd
    obtain ⟨v6, v7, v8, v9, v10, v11, v12, v13, v14, v15, v16, v17, v18, v19, v20, v21, v22, v23, v24, rfl, k0, k1, k2, k3, k4, k5, k6, k7, k8, k9, k10, k11, k12, k13, k14, k15, k16, k17, k18, hW⟩ := hI
    obtain rfl | rfl | rfl | rfl | rfl | rfl | rfl | rfl | rfl | rfl | rfl | rfl | rfl | rfl | rfl | rfl | rfl | rfl | rfl : i = 0 ∨ i = 1 ∨ i = 2 ∨ i = 3 ∨ i = 4 ∨ i = 5 ∨ i = 6 ∨ i = 7 ∨ i = 8 ∨ i = 9 ∨ i = 10 ∨ i = 11 ∨ i = 12 ∨ i = 13 ∨ i = 14 ∨ i = 15 ∨ i = 16 ∨ i = 17 ∨ i = 18 := by omega
    · -- operation 0
      obtain ⟨c0, c1, c2, c3⟩ := (hW.nth 2 rfl).four.1
      have HW := Lib.hid hW
      clear hW hL hd
      refine wpOp_step rfl fun K hK => ?_
      go_simp
      refine hK _ _ ⟨_, _, _, _, _, _, _, _, _, _, _, _, _, _, _, _, _, _, _, rfl, (Lib.hid fun _ => rfl), k1, k2, k3, k4, k5, k6, k7, k8, k9, k10, k11, k12, k13, k14, k15, k16, k17, k18, HW.out⟩
    · -- operation 1
      have c0 := (hW.nth 0 rfl).cell 0
      have HW := Lib.hid hW
      clear hW hL hd
      refine wpOp_step rfl fun K hK => ?_
      go_simp
      refine hK _ _ ⟨_, _, _, _, _, _, _, _, _, _, _, _, _, _, _, _, _, _, _, rfl, k0, (Lib.hid fun _ => rfl), k2, k3, k4, k5, k6, k7, k8, k9, k10, k11, k12, k13, k14, k15, k16, k17, k18, HW.out⟩
    · -- operation 2
      have c0 := (hW.nth 1 rfl).cell 0
      have HW := Lib.hid hW
      clear hW hL hd
      refine wpOp_step rfl fun K hK => ?_
      go_simp
      refine hK _ _ ⟨_, _, _, _, _, _, _, _, _, _, _, _, _, _, _, _, _, _, _, rfl, k0, k1, (Lib.hid fun _ => rfl), k3, k4, k5, k6, k7, k8, k9, k10, k11, k12, k13, k14, k15, k16, k17, k18, HW.out⟩
    · -- operation 3
      obtain rfl := k0.out (hd 0 (by decide))
      obtain rfl := k1.out (hd 1 (by decide))
      obtain rfl := k2.out (hd 2 (by decide))
      have HW := Lib.hid hW
      clear hW hL hd
      refine wpOp_step rfl fun K hK => ?_
      go_simp
      go_at_call 23
      refine (HM.out _).mono ?_
      rintro _ w' ⟨rfl, hb⟩
      refine hK _ _ ⟨_, _, _, _, _, _, _, _, _, _, _, _, _, _, _, _, _, _, _, rfl, k0, k1, k2, (Lib.hid fun _ => rfl), k4, k5, k6, k7, (Lib.hid fun hl => (k8.out hl).by hb), k9, k10, k11, k12, (Lib.hid fun hl => (k13.out hl).by hb), k14, k15, k16, k17, k18, HW.out.by hb⟩
    · -- operation 4
      obtain ⟨c0, c1, c2, c3⟩ := (hW.nth 3 rfl).four.1
      have HW := Lib.hid hW
      clear hW hL hd
      refine wpOp_step rfl fun K hK => ?_
      go_simp
      refine hK _ _ ⟨_, _, _, _, _, _, _, _, _, _, _, _, _, _, _, _, _, _, _, rfl, k0, k1, k2, k3, (Lib.hid fun _ => rfl), k5, k6, k7, k8, k9, k10, k11, k12, k13, k14, k15, k16, k17, k18, HW.out⟩
    · -- operation 5
      obtain rfl := k3.out (hd 3 (by decide))
      obtain rfl := k4.out (hd 4 (by decide))
      have hEQ := HEQ.out
      have HW := Lib.hid hW
      clear hW hL hd
      refine wpOp_step rfl fun K hK => ?_
      go_simp
      rw [ifs4 _ _ hEQ]
      go_simp
      refine hK _ _ ⟨_, _, _, _, _, _, _, _, _, _, _, _, _, _, _, _, _, _, _, rfl, k0, k1, k2, k3, k4, (Lib.hid fun _ => rfl), k6, k7, k8, k9, k10, k11, k12, k13, k14, k15, k16, k17, k18, HW.out⟩
    · -- operation 6
      obtain rfl := k5.out (hd 5 (by decide))
      have HW := Lib.hid hW
      clear hW hL hd
      refine wpOp_step rfl fun K hK => ?_
      go_simp
      refine hK _ _ ⟨_, _, _, _, _, _, _, _, _, _, _, _, _, _, _, _, _, _, _, rfl, k0, k1, k2, k3, k4, k5, (Lib.hid fun _ => rfl), k7, k8, k9, k10, k11, k12, k13, k14, k15, k16, k17, k18, HW.out⟩
    · -- operation 7
      obtain rfl := k6.out (hd 6 (by decide))
      obtain ⟨c0, c1, c2, c3⟩ := (hW.nth 2 rfl).four.1
      have HW := Lib.hid hW
      clear hW hL hd
      refine wpOp_step rfl fun K hK => ?_
      go_simp
      refine hK _ _ ⟨_, _, _, _, _, _, _, _, _, _, _, _, _, _, _, _, _, _, _, rfl, k0, k1, k2, k3, k4, k5, k6, (Lib.hid fun _ => rfl), k8, k9, k10, k11, k12, k13, k14, k15, k16, k17, k18, HW.out⟩
    · -- operation 8
      obtain rfl := k6.out (hd 6 (by decide))
      obtain rfl := k7.out (hd 7 (by decide))
      have HW := Lib.hid hW
      clear hW hL hd
      refine wpOp_step rfl fun K hK => ?_
      go_simp
      go_at_call 26
      refine (numbers4_any _ _ _ _ _).mono ?_
      rintro _ w' ⟨_, rfl, ho, hb⟩
      refine hK _ _ ⟨_, _, _, _, _, _, _, _, _, _, _, _, _, _, _, _, _, _, _, rfl, k0, k1, k2, k3, k4, k5, k6, k7, (Lib.hid fun _ => ho), k9, k10, k11, k12, (Lib.hid fun hl => (k13.out hl).by hb), k14, k15, k16, k17, k18, HW.out.by hb⟩
    · -- operation 9
      obtain rfl := k6.out (hd 6 (by decide))
      have hN := k8.out (hd 8 (by decide))
      have HW := Lib.hid hW
      clear hW hL hd
      refine wpOp_step rfl fun K hK => ?_
      go_simp
      go_at_call 25
      refine (haspoints_eq _ _ _ _ _ _ hN HE1.out).mono ?_
      rintro _ w' ⟨rfl, hb⟩
      refine hK _ _ ⟨_, _, _, _, _, _, _, _, _, _, _, _, _, _, _, _, _, _, _, rfl, k0, k1, k2, k3, k4, k5, k6, k7, (Lib.hid fun hl => (k8.out hl).by hb), (Lib.hid fun _ => rfl), k10, k11, k12, (Lib.hid fun hl => (k13.out hl).by hb), k14, k15, k16, k17, k18, HW.out.by hb⟩
    · -- operation 10
      obtain rfl := k6.out (hd 6 (by decide))
      obtain rfl := k9.out (hd 9 (by decide))
      have HW := Lib.hid hW
      clear hW hL hd
      refine wpOp_step rfl fun K hK => ?_
      go_simp
      refine hK _ _ ⟨_, _, _, _, _, _, _, _, _, _, _, _, _, _, _, _, _, _, _, rfl, k0, k1, k2, k3, k4, k5, k6, k7, k8, k9, (Lib.hid fun _ => rfl), k11, k12, k13, k14, k15, k16, k17, k18, HW.out⟩
    · -- operation 11
      obtain rfl := k6.out (hd 6 (by decide))
      obtain rfl := k10.out (hd 10 (by decide))
      have HW := Lib.hid hW
      clear hW hL hd
      refine wpOp_step rfl fun K hK => ?_
      go_simp
      refine hK _ _ ⟨_, _, _, _, _, _, _, _, _, _, _, _, _, _, _, _, _, _, _, rfl, k0, k1, k2, k3, k4, k5, k6, k7, k8, k9, k10, (Lib.hid fun _ => rfl), k12, k13, k14, k15, k16, k17, k18, HW.out⟩
    · -- operation 12
      obtain rfl := k11.out (hd 11 (by decide))
      obtain ⟨c0, c1, c2, c3⟩ := (hW.nth 3 rfl).four.1
      have HW := Lib.hid hW
      clear hW hL hd
      refine wpOp_step rfl fun K hK => ?_
      go_simp
      refine hK _ _ ⟨_, _, _, _, _, _, _, _, _, _, _, _, _, _, _, _, _, _, _, rfl, k0, k1, k2, k3, k4, k5, k6, k7, k8, k9, k10, k11, (Lib.hid fun _ => rfl), k13, k14, k15, k16, k17, k18, HW.out⟩
    · -- operation 13
      obtain rfl := k11.out (hd 11 (by decide))
      obtain rfl := k12.out (hd 12 (by decide))
      have HW := Lib.hid hW
      clear hW hL hd
      refine wpOp_step rfl fun K hK => ?_
      go_simp
      go_at_call 26
      refine (numbers4_any _ _ _ _ _).mono ?_
      rintro _ w' ⟨_, rfl, ho, hb⟩
      refine hK _ _ ⟨_, _, _, _, _, _, _, _, _, _, _, _, _, _, _, _, _, _, _, rfl, k0, k1, k2, k3, k4, k5, k6, k7, (Lib.hid fun hl => (k8.out hl).by hb), k9, k10, k11, k12, (Lib.hid fun _ => ho), k14, k15, k16, k17, k18, HW.out.by hb⟩
    · -- operation 14
      obtain rfl := k11.out (hd 11 (by decide))
      have hN := k13.out (hd 13 (by decide))
      have HW := Lib.hid hW
      clear hW hL hd
      refine wpOp_step rfl fun K hK => ?_
      go_simp
      go_at_call 25
      refine (haspoints_eq _ _ _ _ _ _ hN HE2.out).mono ?_
      rintro _ w' ⟨rfl, hb⟩
      refine hK _ _ ⟨_, _, _, _, _, _, _, _, _, _, _, _, _, _, _, _, _, _, _, rfl, k0, k1, k2, k3, k4, k5, k6, k7, (Lib.hid fun hl => (k8.out hl).by hb), k9, k10, k11, k12, (Lib.hid fun hl => (k13.out hl).by hb), (Lib.hid fun _ => rfl), k15, k16, k17, k18, HW.out.by hb⟩
    · -- operation 15
      obtain rfl := k11.out (hd 11 (by decide))
      obtain rfl := k14.out (hd 14 (by decide))
      have HW := Lib.hid hW
      clear hW hL hd
      refine wpOp_step rfl fun K hK => ?_
      go_simp
      refine hK _ _ ⟨_, _, _, _, _, _, _, _, _, _, _, _, _, _, _, _, _, _, _, rfl, k0, k1, k2, k3, k4, k5, k6, k7, k8, k9, k10, k11, k12, k13, k14, (Lib.hid fun _ => rfl), k16, k17, k18, HW.out⟩
    · -- operation 16
      obtain rfl := k6.out (hd 6 (by decide))
      obtain rfl := k11.out (hd 11 (by decide))
      obtain rfl := k15.out (hd 15 (by decide))
      have HW := Lib.hid hW
      clear hW hL hd
      refine wpOp_step rfl fun K hK => ?_
      go_simp
      refine hK _ _ ⟨_, _, _, _, _, _, _, _, _, _, _, _, _, _, _, _, _, _, _, rfl, k0, k1, k2, k3, k4, k5, k6, k7, k8, k9, k10, k11, k12, k13, k14, k15, (Lib.hid fun _ => rfl), k17, k18, HW.out⟩
    · -- operation 17
      obtain rfl := k6.out (hd 6 (by decide))
      obtain rfl := k16.out (hd 16 (by decide))
      have HW := Lib.hid hW
      clear hW hL hd
      refine wpOp_step rfl fun K hK => ?_
      go_simp
      refine hK _ _ ⟨_, _, _, _, _, _, _, _, _, _, _, _, _, _, _, _, _, _, _, rfl, k0, k1, k2, k3, k4, k5, k6, k7, k8, k9, k10, k11, k12, k13, k14, k15, k16, (Lib.hid fun _ => rfl), k18, HW.out⟩
    · -- operation 18
      obtain rfl := k17.out (hd 17 (by decide))
      have HW := Lib.hid hW
      clear hW hL hd
      refine wpOp_step rfl fun K hK => ?_
      go_simp
      refine hK _ _ ⟨_, _, _, _, _, _, _, _, _, _, _, _, _, _, _, _, _, _, _, rfl, k0, k1, k2, k3, k4, k5, k6, k7, k8, k9, k10, k11, k12, k13, k14, k15, k16, k17, (Lib.hid fun _ => rfl), HW.out⟩
  intro L a' u hI hall
  obtain ⟨v6, v7, v8, v9, v10, v11, v12, v13, v14, v15, v16, v17, v18, v19, v20, v21, v22, v23, v24, rfl, k0, k1, k2, k3, k4, k5, k6, k7, k8, k9, k10, k11, k12, k13, k14, k15, k16, k17, k18, hW⟩ := hI
  obtain rfl := k0.out (hall 0 (by decide))
  obtain rfl := k1.out (hall 1 (by decide))
  obtain rfl := k2.out (hall 2 (by decide))
  obtain rfl := k3.out (hall 3 (by decide))
  obtain rfl := k4.out (hall 4 (by decide))
  obtain rfl := k5.out (hall 5 (by decide))
  obtain rfl := k6.out (hall 6 (by decide))
  obtain rfl := k7.out (hall 7 (by decide))
  have x8 := k8.out (hall 8 (by decide))
  obtain rfl := k9.out (hall 9 (by decide))
  obtain rfl := k10.out (hall 10 (by decide))
  obtain rfl := k11.out (hall 11 (by decide))
  obtain rfl := k12.out (hall 12 (by decide))
  have x13 := k13.out (hall 13 (by decide))
  obtain rfl := k14.out (hall 14 (by decide))
  obtain rfl := k15.out (hall 15 (by decide))
  obtain rfl := k16.out (hall 16 (by decide))
  obtain rfl := k17.out (hall 17 (by decide))
  obtain rfl := k18.out (hall 18 (by decide))
  clear k0 k1 k2 k3 k4 k5 k6 k7 k8 k9 k10 k11 k12 k13 k14 k15 k16 k17 k18 hall
  show wpOps _ _ _ [] _ _
  unfold wpOps
  have HW := Lib.hid hW
  clear hW
  go_wp2
  go_ret
  exact ⟨rfl, HW.out.2⟩
end Go.Proofs.Ytenhhkeajhkfoaa
