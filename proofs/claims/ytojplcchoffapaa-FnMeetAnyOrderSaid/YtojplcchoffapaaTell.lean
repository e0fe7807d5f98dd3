/- The contract of Tell. Conditions: none. -/
import Derived.Test.YtojplcchoffapaaRect
import Derived.Test.YtojplcchoffapaaRegion
import Derived.Deep.RegionHeld3
import Derived.Deep.DeepCutAuto
namespace Go.Proofs.Ytojplcchoffapaa
open Go.RowKit

/-- it returns what Tell tells -/
def RetT (x y : Int) (r s : R) (w : World) (e : Ending) (w' : World) : Prop :=
  e = .returned (.agg #[.bool (r.has x y), .bool (r.sub s), .bool (r.over s), .bool r.empty, .bool (r.same s), .int .i64 (wrap64 (r.x1 - r.x0)), .int .i64 (wrap64 (r.y1 - r.y0))]) ∧ Below w.heap.size w w'

/-- what Tell's first region keeps -/
def W1 (B : Nat) (x y a b c d e f g h : Int) (w u : World) : Prop :=
  At u B 27 [.int .i64 x, .int .i64 y] ∧ At u (B + 1) 24 [.int .i64 a, .int .i64 b, .int .i64 c, .int .i64 d] ∧ At u (B + 2) 24 [.int .i64 e, .int .i64 f, .int .i64 g, .int .i64 h] ∧
  At u (B + 3) 29 [.bool false, .bool false, .bool false, .bool false, .bool false, .int .i64 0, .int .i64 0] ∧ Below w.heap.size w u
theorem W1.by {B : Nat} {x y a b c d e f g h : Int} {w u u' : World} (hW : W1 B x y a b c d e f g h w u) (hb : Below u.heap.size u u') : W1 B x y a b c d e f g h w u' :=
  ⟨hW.1.by hb, hW.2.1.by hb, hW.2.2.1.by hb, hW.2.2.2.1.by hb, hW.2.2.2.2.trans (hb.mono hW.2.2.2.2.size)⟩
/-- what Tell's last region keeps -/
def W3 (B g7 g8 g9 : Nat) (x y a b c d e f g h sx sy : Int) (w u : World) : Prop :=
  At u B 27 [.int .i64 x, .int .i64 y] ∧ At u g7 61 [.int .i64 a, .int .i64 b, .int .i64 c, .int .i64 d] ∧ At u g8 61 [.int .i64 e, .int .i64 f, .int .i64 g, .int .i64 h] ∧ At u g9 59 [.int .i64 sx, .int .i64 sy] ∧
  At u (B + 3) 29 [.bool false, .bool false, .bool false, .bool false, .bool false, .int .i64 0, .int .i64 0] ∧ Below w.heap.size w u
theorem W3.by {B g7 g8 g9 : Nat} {x y a b c d e f g h sx sy : Int} {w u u' : World} (hW : W3 B g7 g8 g9 x y a b c d e f g h sx sy w u) (hb : Below u.heap.size u u') : W3 B g7 g8 g9 x y a b c d e f g h sx sy w u' :=
  ⟨hW.1.by hb, hW.2.1.by hb, hW.2.2.1.by hb, hW.2.2.2.1.by hb, hW.2.2.2.2.1.by hb, hW.2.2.2.2.2.trans (hb.mono hW.2.2.2.2.2.size)⟩

set_option maxHeartbeats 4000000 in
theorem tell_any (x y a b c d e f g h : Int) (w : World) :
    Calls Try.prog 16 #[.agg #[.int .i64 x, .int .i64 y], .agg #[.int .i64 a, .int .i64 b, .int .i64 c, .int .i64 d], .agg #[.int .i64 e, .int .i64 f, .int .i64 g, .int .i64 h]] w (RetT x y ⟨a, b, c, d⟩ ⟨e, f, g, h⟩ w) := by
  go_enter Try.func16, Try.ntmps16
  go_upto_region 1 with fail
  refine wp_region_tail [[], [0], [], [0, 1, 2], [], [], [0, 1, 2, 3, 4, 5], [0, 1, 2, 3, 4, 5, 6]] (by kernel_rfl) (by kernel_rfl) 6 rfl (by decide) (by decide) (by kernel_rfl)
    (fun L a' u => ∃ v7 v8 v10 v11 v12 v13 : Value, a' = ⟨#[.agg #[.int .i64 x, .int .i64 y], .agg #[.int .i64 a, .int .i64 b, .int .i64 c, .int .i64 d], .agg #[.int .i64 e, .int .i64 f, .int .i64 g, .int .i64 h], .pointer (some ⟨w.heap.size, 0, none⟩), .pointer (some ⟨w.heap.size + 1, 0, none⟩), .pointer (some ⟨w.heap.size + 2, 0, none⟩), .pointer (some ⟨w.heap.size + 3, 0, none⟩), v7, v8, undef, v10, v11, v12, v13, undef, undef, undef, undef, undef, undef, undef, undef, undef, undef, undef, undef, undef, undef, undef, undef, undef, undef, undef, undef, undef, undef, undef], []⟩ ∧
      Hid (L 0 = true → v10 = .agg #[.int .i64 a, .int .i64 b, .int .i64 c, .int .i64 d]) ∧ Hid (L 1 = true → v11 = .agg #[.int .i64 a, .int .i64 b, .int .i64 c, .int .i64 d]) ∧ Hid (L 2 = true → v12 = .agg #[.int .i64 e, .int .i64 f, .int .i64 g, .int .i64 h]) ∧ Hid (L 3 = true → v13 = .agg #[.int .i64 e, .int .i64 f, .int .i64 g, .int .i64 h]) ∧ Hid (L 4 = true → ∃ g7, v7 = .pointer (some ⟨g7, 0, none⟩) ∧ w.heap.size ≤ g7 ∧ At u g7 61 [.int .i64 0, .int .i64 0, .int .i64 0, .int .i64 0]) ∧ Hid (L 5 = true → ∃ g8, v8 = .pointer (some ⟨g8, 0, none⟩) ∧ w.heap.size ≤ g8 ∧ At u g8 61 [.int .i64 0, .int .i64 0, .int .i64 0, .int .i64 0]) ∧ Hid (L 4 = true → L 5 = true → v7 ≠ v8) ∧ (W1 w.heap.size x y a b c d e f g h w u)) ?_ ?_ ?_
  · refine ⟨_, _, _, _, _, _, rfl, (Lib.hid fun h => by cases h), (Lib.hid fun h => by cases h), (Lib.hid fun h => by cases h), (Lib.hid fun h => by cases h), (Lib.hid fun h => by cases h), (Lib.hid fun h => by cases h), (Lib.hid fun h => by cases h), ?_⟩
    refine ⟨?_, ?_, ?_, ?_, ?_⟩
    · (repeat first | exact At.new' _ _ _ (by first | rfl | (simp only [size_alloc])) | refine At.drew ?_ | refine At.alloc ?_ _)
    · (repeat first | exact At.new' _ _ _ (by first | rfl | (simp only [size_alloc])) | refine At.drew ?_ | refine At.alloc ?_ _)
    · (repeat first | exact At.new' _ _ _ (by first | rfl | (simp only [size_alloc])) | refine At.drew ?_ | refine At.alloc ?_ _)
    · (repeat first | exact At.new' _ _ _ (by first | rfl | (simp only [size_alloc])) | refine At.drew ?_ | refine At.alloc ?_ _)
    · (repeat first | exact Below.refl _ _ | refine Below.drew ?_ | refine Below.alloc ?_ (by first | exact Nat.le_refl _ | (simp only [size_alloc]; omega)) _)
  · intro L a' u i hi hI hL hd
    obtain ⟨v7, v8, v10, v11, v12, v13, rfl, k0, k1, k2, k3, k4, k5, p4_5, hW⟩ := hI
    obtain rfl | rfl | rfl | rfl | rfl | rfl : i = 0 ∨ i = 1 ∨ i = 2 ∨ i = 3 ∨ i = 4 ∨ i = 5 := by omega
    · -- operation 0
      obtain ⟨c0, c1, c2, c3⟩ := hW.2.1.four.1
      have HW := Lib.hid hW
      clear hW hL hd
      refine wpOp_step rfl fun K hK => ?_
      go_simp
      refine hK _ _ ⟨_, _, _, _, _, _, rfl, (Lib.hid fun _ => rfl), k1, k2, k3, k4, k5, p4_5, HW.out⟩
    · -- operation 1
      obtain rfl := k0.out (hd 0 (by decide))
      have HW := Lib.hid hW
      clear hW hL hd
      refine wpOp_step rfl fun K hK => ?_
      go_simp
      go_at_call 31
      refine (rectangle_any _ _ _ _ _).mono ?_
      rintro _ w' ⟨rfl, hb⟩
      refine hK _ _ ⟨_, _, _, _, _, _, rfl, k0, (Lib.hid fun _ => rfl), k2, k3, (Lib.hid fun hl => ?_), (Lib.hid fun hl => ?_), p4_5, HW.out.by hb⟩
      · obtain ⟨gg, eg, lg, hg⟩ := k4.out hl
        exact ⟨gg, eg, lg, hg.by hb⟩
      · obtain ⟨gg, eg, lg, hg⟩ := k5.out hl
        exact ⟨gg, eg, lg, hg.by hb⟩
    · -- operation 2
      obtain ⟨c0, c1, c2, c3⟩ := hW.2.2.1.four.1
      have HW := Lib.hid hW
      clear hW hL hd
      refine wpOp_step rfl fun K hK => ?_
      go_simp
      refine hK _ _ ⟨_, _, _, _, _, _, rfl, k0, k1, (Lib.hid fun _ => rfl), k3, k4, k5, p4_5, HW.out⟩
    · -- operation 3
      obtain rfl := k0.out (hd 0 (by decide))
      obtain rfl := k1.out (hd 1 (by decide))
      obtain rfl := k2.out (hd 2 (by decide))
      have HW := Lib.hid hW
      clear hW hL hd
      refine wpOp_step rfl fun K hK => ?_
      go_simp
      go_at_call 31
      refine (rectangle_any _ _ _ _ _).mono ?_
      rintro _ w' ⟨rfl, hb⟩
      refine hK _ _ ⟨_, _, _, _, _, _, rfl, k0, k1, k2, (Lib.hid fun _ => rfl), (Lib.hid fun hl => ?_), (Lib.hid fun hl => ?_), p4_5, HW.out.by hb⟩
      · obtain ⟨gg, eg, lg, hg⟩ := k4.out hl
        exact ⟨gg, eg, lg, hg.by hb⟩
      · obtain ⟨gg, eg, lg, hg⟩ := k5.out hl
        exact ⟨gg, eg, lg, hg.by hb⟩
    · -- operation 4
      have HW := Lib.hid hW
      clear hW hL hd
      refine wpOp_step rfl fun K hK => ?_
      go_simp
      refine hK _ _ ⟨_, _, _, _, _, _, rfl, k0, k1, k2, k3, (Lib.hid fun _ => ⟨_, rfl, HW.out.2.2.2.2.size, At.new _ _ _⟩), (Lib.hid fun hl => ?_), (Lib.hid fun hl1 hl2 => ?_), HW.out.by ((Below.refl _ _).alloc (Nat.le_refl _) _)⟩
      · obtain ⟨gg, eg, lg, hg⟩ := k5.out hl
        exact ⟨gg, eg, lg, hg.by ((Below.refl _ _).alloc (Nat.le_refl _) _)⟩
      · obtain ⟨gg, rfl, _, hg⟩ := k5.out hl2
        have hlt := hg.lt
        intro hcon
        simp only [Value.pointer.injEq, Option.some.injEq, Addr.mk.injEq] at hcon
        omega
    · -- operation 5
      have HW := Lib.hid hW
      clear hW hL hd
      refine wpOp_step rfl fun K hK => ?_
      go_simp
      refine hK _ _ ⟨_, _, _, _, _, _, rfl, k0, k1, k2, k3, (Lib.hid fun hl => ?_), (Lib.hid fun _ => ⟨_, rfl, HW.out.2.2.2.2.size, At.new _ _ _⟩), (Lib.hid fun hl1 hl2 => ?_), HW.out.by ((Below.refl _ _).alloc (Nat.le_refl _) _)⟩
      · obtain ⟨gg, eg, lg, hg⟩ := k4.out hl
        exact ⟨gg, eg, lg, hg.by ((Below.refl _ _).alloc (Nat.le_refl _) _)⟩
      · obtain ⟨gg, rfl, _, hg⟩ := k4.out hl1
        have hlt := hg.lt
        intro hcon
        simp only [Value.pointer.injEq, Option.some.injEq, Addr.mk.injEq] at hcon
        omega
  intro L a' u hI hall
  obtain ⟨v7, v8, v10, v11, v12, v13, rfl, k0, k1, k2, k3, k4, k5, p4_5, hW⟩ := hI
  replace p4_5 := p4_5.out (hall 4 (by decide)) (hall 5 (by decide))
  obtain ⟨g7, e7, l7, h7⟩ := k4.out (hall 4 (by decide))
  obtain ⟨g8, e8, l8, h8⟩ := k5.out (hall 5 (by decide))
  obtain rfl := k0.out (hall 0 (by decide))
  obtain rfl := k1.out (hall 1 (by decide))
  obtain rfl := k2.out (hall 2 (by decide))
  obtain rfl := k3.out (hall 3 (by decide))
  subst e7
  subst e8
  clear k0 k1 k2 k3 k4 k5 hall
  show wpOps _ _ _ [6, 7] _ _
  obtain ⟨hp, -, -, ht, hb⟩ := hW
  have hne : g7 ≠ g8 := fun h => p4_5 (by rw [h])
  clear p4_5
  -- the two stores
  have hp7 : w.heap.size ≠ g7 := hp.ne h7 (by decide)
  have ht7 : w.heap.size + 3 ≠ g7 := ht.ne h7 (by decide)
  have hp8 : w.heap.size ≠ g8 := hp.ne h8 (by decide)
  have ht8 : w.heap.size + 3 ≠ g8 := ht.ne h8 (by decide)
  rw [wpOps_cons]
  obtain ⟨⟨c0, c1, c2, c3⟩, z0, z1, z2, z3⟩ := h7.four
  have H := Lib.hid (And.intro h7 (And.intro h8 (And.intro hp (And.intro ht hb))))
  clear h7 h8 hp ht hb
  refine wpOp_step rfl fun K hK => ?_
  go_simp
  refine hK _ _ ?_
  clear c0 c1 c2 c3 z0 z1 z2 z3 hK K
  obtain ⟨h7, h8, hp, ht, hb⟩ := H.out
  clear H
  replace h7 := h7.set4 (.int .i64 a) (.int .i64 b) (.int .i64 c) (.int .i64 d)
  replace h8 := h8.far4 (Ne.symm hne) (.int .i64 a) (.int .i64 b) (.int .i64 c) (.int .i64 d)
  replace hp := hp.far4 hp7 (.int .i64 a) (.int .i64 b) (.int .i64 c) (.int .i64 d)
  replace ht := ht.far4 ht7 (.int .i64 a) (.int .i64 b) (.int .i64 c) (.int .i64 d)
  replace hb := below_set4 hb l7 (.int .i64 a) (.int .i64 b) (.int .i64 c) (.int .i64 d)
  revert h7 h8 hp ht hb
  generalize ((((u.setCell ⟨g7, 0, none⟩ (.int .i64 a)).setCell ⟨g7, 1, none⟩ (.int .i64 b)).setCell ⟨g7, 2, none⟩ (.int .i64 c)).setCell ⟨g7, 3, none⟩ (.int .i64 d)) = u1
  intro h7 h8 hp ht hb
  rw [wpOps_cons]
  obtain ⟨⟨c0, c1, c2, c3⟩, z0, z1, z2, z3⟩ := h8.four
  have H := Lib.hid (And.intro h7 (And.intro h8 (And.intro hp (And.intro ht hb))))
  clear h7 h8 hp ht hb
  refine wpOp_step rfl fun K hK => ?_
  go_simp
  refine hK _ _ ?_
  clear c0 c1 c2 c3 z0 z1 z2 z3 hK K
  obtain ⟨h7, h8, hp, ht, hb⟩ := H.out
  clear H
  replace h7 := h7.far4 hne (.int .i64 e) (.int .i64 f) (.int .i64 g) (.int .i64 h)
  replace h8 := h8.set4 (.int .i64 e) (.int .i64 f) (.int .i64 g) (.int .i64 h)
  replace hp := hp.far4 hp8 (.int .i64 e) (.int .i64 f) (.int .i64 g) (.int .i64 h)
  replace ht := ht.far4 ht8 (.int .i64 e) (.int .i64 f) (.int .i64 g) (.int .i64 h)
  replace hb := below_set4 hb l8 (.int .i64 e) (.int .i64 f) (.int .i64 g) (.int .i64 h)
  revert h7 h8 hp ht hb
  generalize ((((u1.setCell ⟨g8, 0, none⟩ (.int .i64 e)).setCell ⟨g8, 1, none⟩ (.int .i64 f)).setCell ⟨g8, 2, none⟩ (.int .i64 g)).setCell ⟨g8, 3, none⟩ (.int .i64 h)) = u2
  intro h7 h8 hp ht hb
  clear hp7 ht7 hp8 ht8 hne l7 l8
  obtain ⟨c0, c1, c2, c3⟩ := h7.four.1
  have H := Lib.hid (And.intro h7 (And.intro h8 (And.intro hp (And.intro ht hb))))
  clear h7 h8 hp ht hb
  unfold wpOps
  go_upto_region 3 with (go_at_call 32; refine (size_any _ _ _ _ _).mono ?_; rintro _ w1 ⟨rfl, hb1⟩)
  clear c0 c1 c2 c3
  obtain ⟨h7, h8, hp, ht, hb⟩ := H.out
  clear H
  replace h7 := (h7.by hb1).alloc (.cells #[.int .i64 (wrap64 (c - a)), .int .i64 (wrap64 (d - b))] 59)
  replace h8 := (h8.by hb1).alloc (.cells #[.int .i64 (wrap64 (c - a)), .int .i64 (wrap64 (d - b))] 59)
  replace hp := (hp.by hb1).alloc (.cells #[.int .i64 (wrap64 (c - a)), .int .i64 (wrap64 (d - b))] 59)
  replace ht := (ht.by hb1).alloc (.cells #[.int .i64 (wrap64 (c - a)), .int .i64 (wrap64 (d - b))] 59)
  have h9 := At.new w1 59 [.int .i64 (wrap64 (c - a)), .int .i64 (wrap64 (d - b))]
  replace hb := ((hb.trans (hb1.mono hb.size)).alloc (Nat.le_trans hb.size hb1.size) (.cells #[.int .i64 (wrap64 (c - a)), .int .i64 (wrap64 (d - b))] 59))
  clear hb1
  refine wp_region_tail [[], [0], [], [0, 1, 2], [], [], [0, 1, 2, 3, 4, 5], [], [], [0, 1, 2, 3, 4, 5, 6, 7, 8], [], [0, 1, 2, 3, 4, 5, 6, 7, 8, 9, 10], [], [], [0, 1, 2, 3, 4, 5, 6, 7, 8, 9, 10, 11, 12, 13], [], [15], [], [17], [15, 16, 17, 18], [0, 1, 2, 3, 4, 5, 6, 7, 8, 9, 10, 11, 12, 13, 14, 15, 16, 17, 18, 19], [0, 1, 2, 3, 4, 5, 6, 7, 8, 9, 10, 11, 12, 13, 14, 15, 16, 17, 18, 19, 20]] (by kernel_rfl) (by kernel_rfl) 21 rfl (by decide) (by decide) (by kernel_rfl)
    (fun L a' u => ∃ v16 v17 v18 v19 v20 v21 v22 v23 v24 v25 v26 v27 v28 v29 v30 v31 v32 v33 v34 v35 v36 : Value, a' = ⟨#[.agg #[.int .i64 x, .int .i64 y], .agg #[.int .i64 a, .int .i64 b, .int .i64 c, .int .i64 d], .agg #[.int .i64 e, .int .i64 f, .int .i64 g, .int .i64 h], .pointer (some ⟨w.heap.size, 0, none⟩), .pointer (some ⟨w.heap.size + 1, 0, none⟩), .pointer (some ⟨w.heap.size + 2, 0, none⟩), .pointer (some ⟨w.heap.size + 3, 0, none⟩), .pointer (some ⟨g7, 0, none⟩), .pointer (some ⟨g8, 0, none⟩), .pointer (some ⟨w1.heap.size, 0, none⟩), .agg #[.int .i64 a, .int .i64 b, .int .i64 c, .int .i64 d], .agg #[.int .i64 a, .int .i64 b, .int .i64 c, .int .i64 d], .agg #[.int .i64 e, .int .i64 f, .int .i64 g, .int .i64 h], .agg #[.int .i64 e, .int .i64 f, .int .i64 g, .int .i64 h], .agg #[.int .i64 a, .int .i64 b, .int .i64 c, .int .i64 d], .agg #[.int .i64 (wrap64 (c - a)), .int .i64 (wrap64 (d - b))], v16, v17, v18, v19, v20, v21, v22, v23, v24, v25, v26, v27, v28, v29, v30, v31, v32, v33, v34, v35, v36], []⟩ ∧
      Hid (L 0 = true → v16 = .agg #[.int .i64 x, .int .i64 y]) ∧ Hid (L 1 = true → v17 = .agg #[.int .i64 x, .int .i64 y]) ∧ Hid (L 2 = true → v18 = .agg #[.int .i64 a, .int .i64 b, .int .i64 c, .int .i64 d]) ∧ Hid (L 3 = true → v19 = .bool (inB x y a b c d)) ∧ Hid (L 4 = true → v20 = .agg #[.int .i64 a, .int .i64 b, .int .i64 c, .int .i64 d]) ∧ Hid (L 5 = true → v21 = .agg #[.int .i64 e, .int .i64 f, .int .i64 g, .int .i64 h]) ∧ Hid (L 6 = true → v22 = .bool (subB a b c d e f g h)) ∧ Hid (L 7 = true → v23 = .agg #[.int .i64 a, .int .i64 b, .int .i64 c, .int .i64 d]) ∧ Hid (L 8 = true → v24 = .agg #[.int .i64 e, .int .i64 f, .int .i64 g, .int .i64 h]) ∧ Hid (L 9 = true → v25 = .bool (overB a b c d e f g h)) ∧ Hid (L 10 = true → v26 = .agg #[.int .i64 a, .int .i64 b, .int .i64 c, .int .i64 d]) ∧ Hid (L 11 = true → v27 = .bool (emptyB a b c d)) ∧ Hid (L 12 = true → v28 = .agg #[.int .i64 a, .int .i64 b, .int .i64 c, .int .i64 d]) ∧ Hid (L 13 = true → v29 = .agg #[.int .i64 e, .int .i64 f, .int .i64 g, .int .i64 h]) ∧ Hid (L 14 = true → v30 = .bool (sameB a b c d e f g h)) ∧ Hid (L 15 = true → v31 = .pointer (some ⟨w1.heap.size, 0, none⟩)) ∧ Hid (L 16 = true → v32 = .int .i64 (wrap64 (c - a))) ∧ Hid (L 17 = true → v33 = .pointer (some ⟨w1.heap.size, 1, none⟩)) ∧ Hid (L 18 = true → v34 = .int .i64 (wrap64 (d - b))) ∧ Hid (L 19 = true → v35 = .agg #[.int .i64 (wrap64 (c - a)), .int .i64 (wrap64 (d - b))]) ∧ Hid (L 20 = true → v36 = .agg #[.bool (inB x y a b c d), .bool (subB a b c d e f g h), .bool (overB a b c d e f g h), .bool (emptyB a b c d), .bool (sameB a b c d e f g h), .int .i64 (wrap64 (c - a)), .int .i64 (wrap64 (d - b))]) ∧ (W3 w.heap.size g7 g8 w1.heap.size x y a b c d e f g h (wrap64 (c - a)) (wrap64 (d - b)) w u)) ?_ ?_ ?_
  · refine ⟨_, _, _, _, _, _, _, _, _, _, _, _, _, _, _, _, _, _, _, _, _, rfl, (Lib.hid fun h => by cases h), (Lib.hid fun h => by cases h), (Lib.hid fun h => by cases h), (Lib.hid fun h => by cases h), (Lib.hid fun h => by cases h), (Lib.hid fun h => by cases h), (Lib.hid fun h => by cases h), (Lib.hid fun h => by cases h), (Lib.hid fun h => by cases h), (Lib.hid fun h => by cases h), (Lib.hid fun h => by cases h), (Lib.hid fun h => by cases h), (Lib.hid fun h => by cases h), (Lib.hid fun h => by cases h), (Lib.hid fun h => by cases h), (Lib.hid fun h => by cases h), (Lib.hid fun h => by cases h), (Lib.hid fun h => by cases h), (Lib.hid fun h => by cases h), (Lib.hid fun h => by cases h), (Lib.hid fun h => by cases h), ?_⟩
    exact ⟨hp.drew, h7.drew, h8.drew, h9.drew, ht.drew, hb.drew⟩
  · intro L a' u i hi hI hL hd
    obtain ⟨v16, v17, v18, v19, v20, v21, v22, v23, v24, v25, v26, v27, v28, v29, v30, v31, v32, v33, v34, v35, v36, rfl, k0, k1, k2, k3, k4, k5, k6, k7, k8, k9, k10, k11, k12, k13, k14, k15, k16, k17, k18, k19, k20, hW⟩ := hI
    obtain rfl | rfl | rfl | rfl | rfl | rfl | rfl | rfl | rfl | rfl | rfl | rfl | rfl | rfl | rfl | rfl | rfl | rfl | rfl | rfl | rfl : i = 0 ∨ i = 1 ∨ i = 2 ∨ i = 3 ∨ i = 4 ∨ i = 5 ∨ i = 6 ∨ i = 7 ∨ i = 8 ∨ i = 9 ∨ i = 10 ∨ i = 11 ∨ i = 12 ∨ i = 13 ∨ i = 14 ∨ i = 15 ∨ i = 16 ∨ i = 17 ∨ i = 18 ∨ i = 19 ∨ i = 20 := by omega
    · -- operation 0
      obtain ⟨c0, c1⟩ := hW.1.two.1
      have HW := Lib.hid hW
      clear hW hL hd
      refine wpOp_step rfl fun K hK => ?_
      go_simp
      refine hK _ _ ⟨_, _, _, _, _, _, _, _, _, _, _, _, _, _, _, _, _, _, _, _, _, rfl, (Lib.hid fun _ => rfl), k1, k2, k3, k4, k5, k6, k7, k8, k9, k10, k11, k12, k13, k14, k15, k16, k17, k18, k19, k20, HW.out⟩
    · -- operation 1
      obtain rfl := k0.out (hd 0 (by decide))
      have HW := Lib.hid hW
      clear hW hL hd
      refine wpOp_step rfl fun K hK => ?_
      go_simp
      go_at_call 33
      refine (point_any _ _ _).mono ?_
      rintro _ w' ⟨rfl, hb⟩
      refine hK _ _ ⟨_, _, _, _, _, _, _, _, _, _, _, _, _, _, _, _, _, _, _, _, _, rfl, k0, (Lib.hid fun _ => rfl), k2, k3, k4, k5, k6, k7, k8, k9, k10, k11, k12, k13, k14, k15, k16, k17, k18, k19, k20, HW.out.by hb⟩
    · -- operation 2
      obtain ⟨c0, c1, c2, c3⟩ := hW.2.1.four.1
      have HW := Lib.hid hW
      clear hW hL hd
      refine wpOp_step rfl fun K hK => ?_
      go_simp
      refine hK _ _ ⟨_, _, _, _, _, _, _, _, _, _, _, _, _, _, _, _, _, _, _, _, _, rfl, k0, k1, (Lib.hid fun _ => rfl), k3, k4, k5, k6, k7, k8, k9, k10, k11, k12, k13, k14, k15, k16, k17, k18, k19, k20, HW.out⟩
    · -- operation 3
      obtain rfl := k0.out (hd 0 (by decide))
      obtain rfl := k1.out (hd 1 (by decide))
      obtain rfl := k2.out (hd 2 (by decide))
      have HW := Lib.hid hW
      clear hW hL hd
      refine wpOp_step rfl fun K hK => ?_
      go_simp
      go_at_call 34
      refine (in_any _ _ _ _ _ _ _).mono ?_
      rintro _ w' ⟨rfl, hb⟩
      refine hK _ _ ⟨_, _, _, _, _, _, _, _, _, _, _, _, _, _, _, _, _, _, _, _, _, rfl, k0, k1, k2, (Lib.hid fun _ => rfl), k4, k5, k6, k7, k8, k9, k10, k11, k12, k13, k14, k15, k16, k17, k18, k19, k20, HW.out.by hb⟩
    · -- operation 4
      obtain ⟨c0, c1, c2, c3⟩ := hW.2.1.four.1
      have HW := Lib.hid hW
      clear hW hL hd
      refine wpOp_step rfl fun K hK => ?_
      go_simp
      refine hK _ _ ⟨_, _, _, _, _, _, _, _, _, _, _, _, _, _, _, _, _, _, _, _, _, rfl, k0, k1, k2, k3, (Lib.hid fun _ => rfl), k5, k6, k7, k8, k9, k10, k11, k12, k13, k14, k15, k16, k17, k18, k19, k20, HW.out⟩
    · -- operation 5
      obtain ⟨c0, c1, c2, c3⟩ := hW.2.2.1.four.1
      have HW := Lib.hid hW
      clear hW hL hd
      refine wpOp_step rfl fun K hK => ?_
      go_simp
      refine hK _ _ ⟨_, _, _, _, _, _, _, _, _, _, _, _, _, _, _, _, _, _, _, _, _, rfl, k0, k1, k2, k3, k4, (Lib.hid fun _ => rfl), k6, k7, k8, k9, k10, k11, k12, k13, k14, k15, k16, k17, k18, k19, k20, HW.out⟩
    · -- operation 6
      obtain rfl := k0.out (hd 0 (by decide))
      obtain rfl := k1.out (hd 1 (by decide))
      obtain rfl := k2.out (hd 2 (by decide))
      obtain rfl := k3.out (hd 3 (by decide))
      obtain rfl := k4.out (hd 4 (by decide))
      obtain rfl := k5.out (hd 5 (by decide))
      have HW := Lib.hid hW
      clear hW hL hd
      refine wpOp_step rfl fun K hK => ?_
      go_simp
      go_at_call 35
      refine (sub_any _ _ _ _ _ _ _ _ _).mono ?_
      rintro _ w' ⟨rfl, hb⟩
      refine hK _ _ ⟨_, _, _, _, _, _, _, _, _, _, _, _, _, _, _, _, _, _, _, _, _, rfl, k0, k1, k2, k3, k4, k5, (Lib.hid fun _ => rfl), k7, k8, k9, k10, k11, k12, k13, k14, k15, k16, k17, k18, k19, k20, HW.out.by hb⟩
    · -- operation 7
      obtain ⟨c0, c1, c2, c3⟩ := hW.2.1.four.1
      have HW := Lib.hid hW
      clear hW hL hd
      refine wpOp_step rfl fun K hK => ?_
      go_simp
      refine hK _ _ ⟨_, _, _, _, _, _, _, _, _, _, _, _, _, _, _, _, _, _, _, _, _, rfl, k0, k1, k2, k3, k4, k5, k6, (Lib.hid fun _ => rfl), k8, k9, k10, k11, k12, k13, k14, k15, k16, k17, k18, k19, k20, HW.out⟩
    · -- operation 8
      obtain ⟨c0, c1, c2, c3⟩ := hW.2.2.1.four.1
      have HW := Lib.hid hW
      clear hW hL hd
      refine wpOp_step rfl fun K hK => ?_
      go_simp
      refine hK _ _ ⟨_, _, _, _, _, _, _, _, _, _, _, _, _, _, _, _, _, _, _, _, _, rfl, k0, k1, k2, k3, k4, k5, k6, k7, (Lib.hid fun _ => rfl), k9, k10, k11, k12, k13, k14, k15, k16, k17, k18, k19, k20, HW.out⟩
    · -- operation 9
      obtain rfl := k0.out (hd 0 (by decide))
      obtain rfl := k1.out (hd 1 (by decide))
      obtain rfl := k2.out (hd 2 (by decide))
      obtain rfl := k3.out (hd 3 (by decide))
      obtain rfl := k4.out (hd 4 (by decide))
      obtain rfl := k5.out (hd 5 (by decide))
      obtain rfl := k6.out (hd 6 (by decide))
      obtain rfl := k7.out (hd 7 (by decide))
      obtain rfl := k8.out (hd 8 (by decide))
      have HW := Lib.hid hW
      clear hW hL hd
      refine wpOp_step rfl fun K hK => ?_
      go_simp
      go_at_call 36
      refine (over_any _ _ _ _ _ _ _ _ _).mono ?_
      rintro _ w' ⟨rfl, hb⟩
      refine hK _ _ ⟨_, _, _, _, _, _, _, _, _, _, _, _, _, _, _, _, _, _, _, _, _, rfl, k0, k1, k2, k3, k4, k5, k6, k7, k8, (Lib.hid fun _ => rfl), k10, k11, k12, k13, k14, k15, k16, k17, k18, k19, k20, HW.out.by hb⟩
    · -- operation 10
      obtain ⟨c0, c1, c2, c3⟩ := hW.2.1.four.1
      have HW := Lib.hid hW
      clear hW hL hd
      refine wpOp_step rfl fun K hK => ?_
      go_simp
      refine hK _ _ ⟨_, _, _, _, _, _, _, _, _, _, _, _, _, _, _, _, _, _, _, _, _, rfl, k0, k1, k2, k3, k4, k5, k6, k7, k8, k9, (Lib.hid fun _ => rfl), k11, k12, k13, k14, k15, k16, k17, k18, k19, k20, HW.out⟩
    · -- operation 11
      obtain rfl := k0.out (hd 0 (by decide))
      obtain rfl := k1.out (hd 1 (by decide))
      obtain rfl := k2.out (hd 2 (by decide))
      obtain rfl := k3.out (hd 3 (by decide))
      obtain rfl := k4.out (hd 4 (by decide))
      obtain rfl := k5.out (hd 5 (by decide))
      obtain rfl := k6.out (hd 6 (by decide))
      obtain rfl := k7.out (hd 7 (by decide))
      obtain rfl := k8.out (hd 8 (by decide))
      obtain rfl := k9.out (hd 9 (by decide))
      obtain rfl := k10.out (hd 10 (by decide))
      have HW := Lib.hid hW
      clear hW hL hd
      refine wpOp_step rfl fun K hK => ?_
      go_simp
      go_at_call 37
      refine (empty_any _ _ _ _ _).mono ?_
      rintro _ w' ⟨rfl, hb⟩
      refine hK _ _ ⟨_, _, _, _, _, _, _, _, _, _, _, _, _, _, _, _, _, _, _, _, _, rfl, k0, k1, k2, k3, k4, k5, k6, k7, k8, k9, k10, (Lib.hid fun _ => rfl), k12, k13, k14, k15, k16, k17, k18, k19, k20, HW.out.by hb⟩
    · -- operation 12
      obtain ⟨c0, c1, c2, c3⟩ := hW.2.1.four.1
      have HW := Lib.hid hW
      clear hW hL hd
      refine wpOp_step rfl fun K hK => ?_
      go_simp
      refine hK _ _ ⟨_, _, _, _, _, _, _, _, _, _, _, _, _, _, _, _, _, _, _, _, _, rfl, k0, k1, k2, k3, k4, k5, k6, k7, k8, k9, k10, k11, (Lib.hid fun _ => rfl), k13, k14, k15, k16, k17, k18, k19, k20, HW.out⟩
    · -- operation 13
      obtain ⟨c0, c1, c2, c3⟩ := hW.2.2.1.four.1
      have HW := Lib.hid hW
      clear hW hL hd
      refine wpOp_step rfl fun K hK => ?_
      go_simp
      refine hK _ _ ⟨_, _, _, _, _, _, _, _, _, _, _, _, _, _, _, _, _, _, _, _, _, rfl, k0, k1, k2, k3, k4, k5, k6, k7, k8, k9, k10, k11, k12, (Lib.hid fun _ => rfl), k14, k15, k16, k17, k18, k19, k20, HW.out⟩
    · -- operation 14
      obtain rfl := k0.out (hd 0 (by decide))
      obtain rfl := k1.out (hd 1 (by decide))
      obtain rfl := k2.out (hd 2 (by decide))
      obtain rfl := k3.out (hd 3 (by decide))
      obtain rfl := k4.out (hd 4 (by decide))
      obtain rfl := k5.out (hd 5 (by decide))
      obtain rfl := k6.out (hd 6 (by decide))
      obtain rfl := k7.out (hd 7 (by decide))
      obtain rfl := k8.out (hd 8 (by decide))
      obtain rfl := k9.out (hd 9 (by decide))
      obtain rfl := k10.out (hd 10 (by decide))
      obtain rfl := k11.out (hd 11 (by decide))
      obtain rfl := k12.out (hd 12 (by decide))
      obtain rfl := k13.out (hd 13 (by decide))
      have HW := Lib.hid hW
      clear hW hL hd
      refine wpOp_step rfl fun K hK => ?_
      go_simp
      go_at_call 38
      refine (same_any _ _ _ _ _ _ _ _ _).mono ?_
      rintro _ w' ⟨rfl, hb⟩
      refine hK _ _ ⟨_, _, _, _, _, _, _, _, _, _, _, _, _, _, _, _, _, _, _, _, _, rfl, k0, k1, k2, k3, k4, k5, k6, k7, k8, k9, k10, k11, k12, k13, (Lib.hid fun _ => rfl), k15, k16, k17, k18, k19, k20, HW.out.by hb⟩
    · -- operation 15
      have HW := Lib.hid hW
      clear hW hL hd
      refine wpOp_step rfl fun K hK => ?_
      go_simp
      refine hK _ _ ⟨_, _, _, _, _, _, _, _, _, _, _, _, _, _, _, _, _, _, _, _, _, rfl, k0, k1, k2, k3, k4, k5, k6, k7, k8, k9, k10, k11, k12, k13, k14, (Lib.hid fun _ => rfl), k16, k17, k18, k19, k20, HW.out⟩
    · -- operation 16
      obtain rfl := k15.out (hd 15 (by decide))
      obtain ⟨c0, c1⟩ := hW.2.2.2.1.two.1
      have HW := Lib.hid hW
      clear hW hL hd
      refine wpOp_step rfl fun K hK => ?_
      go_simp
      refine hK _ _ ⟨_, _, _, _, _, _, _, _, _, _, _, _, _, _, _, _, _, _, _, _, _, rfl, k0, k1, k2, k3, k4, k5, k6, k7, k8, k9, k10, k11, k12, k13, k14, k15, (Lib.hid fun _ => rfl), k17, k18, k19, k20, HW.out⟩
    · -- operation 17
      have HW := Lib.hid hW
      clear hW hL hd
      refine wpOp_step rfl fun K hK => ?_
      go_simp
      refine hK _ _ ⟨_, _, _, _, _, _, _, _, _, _, _, _, _, _, _, _, _, _, _, _, _, rfl, k0, k1, k2, k3, k4, k5, k6, k7, k8, k9, k10, k11, k12, k13, k14, k15, k16, (Lib.hid fun _ => rfl), k18, k19, k20, HW.out⟩
    · -- operation 18
      obtain rfl := k17.out (hd 17 (by decide))
      obtain ⟨c0, c1⟩ := hW.2.2.2.1.two.1
      have HW := Lib.hid hW
      clear hW hL hd
      refine wpOp_step rfl fun K hK => ?_
      go_simp
      refine hK _ _ ⟨_, _, _, _, _, _, _, _, _, _, _, _, _, _, _, _, _, _, _, _, _, rfl, k0, k1, k2, k3, k4, k5, k6, k7, k8, k9, k10, k11, k12, k13, k14, k15, k16, k17, (Lib.hid fun _ => rfl), k19, k20, HW.out⟩
    · -- operation 19
      obtain rfl := k15.out (hd 15 (by decide))
      obtain rfl := k16.out (hd 16 (by decide))
      obtain rfl := k17.out (hd 17 (by decide))
      obtain rfl := k18.out (hd 18 (by decide))
      have HW := Lib.hid hW
      clear hW hL hd
      refine wpOp_step rfl fun K hK => ?_
      go_simp
      refine hK _ _ ⟨_, _, _, _, _, _, _, _, _, _, _, _, _, _, _, _, _, _, _, _, _, rfl, k0, k1, k2, k3, k4, k5, k6, k7, k8, k9, k10, k11, k12, k13, k14, k15, k16, k17, k18, (Lib.hid fun _ => rfl), k20, HW.out⟩
    · -- operation 20
      obtain rfl := k0.out (hd 0 (by decide))
      obtain rfl := k1.out (hd 1 (by decide))
      obtain rfl := k2.out (hd 2 (by decide))
      obtain rfl := k3.out (hd 3 (by decide))
      obtain rfl := k4.out (hd 4 (by decide))
      obtain rfl := k5.out (hd 5 (by decide))
      obtain rfl := k6.out (hd 6 (by decide))
      obtain rfl := k7.out (hd 7 (by decide))
      obtain rfl := k8.out (hd 8 (by decide))
      obtain rfl := k9.out (hd 9 (by decide))
      obtain rfl := k10.out (hd 10 (by decide))
      obtain rfl := k11.out (hd 11 (by decide))
      obtain rfl := k12.out (hd 12 (by decide))
      obtain rfl := k13.out (hd 13 (by decide))
      obtain rfl := k14.out (hd 14 (by decide))
      obtain rfl := k15.out (hd 15 (by decide))
      obtain rfl := k16.out (hd 16 (by decide))
      obtain rfl := k17.out (hd 17 (by decide))
      obtain rfl := k18.out (hd 18 (by decide))
      obtain rfl := k19.out (hd 19 (by decide))
      have HW := Lib.hid hW
      clear hW hL hd
      refine wpOp_step rfl fun K hK => ?_
      go_simp
      refine hK _ _ ⟨_, _, _, _, _, _, _, _, _, _, _, _, _, _, _, _, _, _, _, _, _, rfl, k0, k1, k2, k3, k4, k5, k6, k7, k8, k9, k10, k11, k12, k13, k14, k15, k16, k17, k18, k19, (Lib.hid fun _ => rfl), HW.out⟩
  intro L a' u hI hall
  obtain ⟨v16, v17, v18, v19, v20, v21, v22, v23, v24, v25, v26, v27, v28, v29, v30, v31, v32, v33, v34, v35, v36, rfl, k0, k1, k2, k3, k4, k5, k6, k7, k8, k9, k10, k11, k12, k13, k14, k15, k16, k17, k18, k19, k20, hW⟩ := hI
  obtain rfl := k0.out (hall 0 (by decide))
  obtain rfl := k1.out (hall 1 (by decide))
  obtain rfl := k2.out (hall 2 (by decide))
  obtain rfl := k3.out (hall 3 (by decide))
  obtain rfl := k4.out (hall 4 (by decide))
  obtain rfl := k5.out (hall 5 (by decide))
  obtain rfl := k6.out (hall 6 (by decide))
  obtain rfl := k7.out (hall 7 (by decide))
  obtain rfl := k8.out (hall 8 (by decide))
  obtain rfl := k9.out (hall 9 (by decide))
  obtain rfl := k10.out (hall 10 (by decide))
  obtain rfl := k11.out (hall 11 (by decide))
  obtain rfl := k12.out (hall 12 (by decide))
  obtain rfl := k13.out (hall 13 (by decide))
  obtain rfl := k14.out (hall 14 (by decide))
  obtain rfl := k15.out (hall 15 (by decide))
  obtain rfl := k16.out (hall 16 (by decide))
  obtain rfl := k17.out (hall 17 (by decide))
  obtain rfl := k18.out (hall 18 (by decide))
  obtain rfl := k19.out (hall 19 (by decide))
  obtain rfl := k20.out (hall 20 (by decide))
  clear k0 k1 k2 k3 k4 k5 k6 k7 k8 k9 k10 k11 k12 k13 k14 k15 k16 k17 k18 k19 k20 hall
  show wpOps _ _ _ [21] _ _
  obtain ⟨-, -, -, -, ht, hb⟩ := hW
  obtain ⟨⟨c0, c1, c2, c3, c4, c5, c6⟩, z0, z1, z2, z3, z4, z5, z6⟩ := ht.seven
  have H := Lib.hid (And.intro ht hb)
  clear ht hb
  rw [wpOps_cons]
  refine wpOp_step rfl fun K hK => ?_
  go_simp
  refine hK _ _ ?_
  clear hK K
  unfold wpOps
  go_wp2
  exact bodyPost_ret (results_cell_row rfl _ _ (w.heap.size + 3) _ _ _ _ rfl (H.out.1.set7 _ _ _ _ _ _ _) Try.underlying29 rfl (by kernel_rfl)) rfl ⟨rfl, below_set7 H.out.2 (by omega) _ _ _ _ _ _ _⟩
end Go.Proofs.Ytojplcchoffapaa
