/- The walk of FnGridOnce. Conditions: each list holds at most 17592186044414 numbers. -/
import Derived.Test.YtenhhkeajhkfoaaPlainGrid
import Derived.Test.YtenhhkeajhkfoaaBoth
import Derived.Test.YtenhhkeajhkfoaaHasP
import Derived.Test.YtenhhkeajhkfoaaSpots
import Derived.Test.YtenhhkeajhkfoaaBlocks
import Derived.Test.YtenhhkeajhkfoaaTail
import Derived.Test.YtenhhkeajhkfoaaPlainCut
import Derived.Test.YtenhhkeajhkfoaaPlainPts
import Derived.Deep.DeepCutAuto
import Derived.Outline
namespace Go.Proofs.Ytenhhkeajhkfoaa
open Go.RowKit

theorem bothg (a b c d e f g h : Int) (m : R) (hm : inter ⟨a, b, c, d⟩ ⟨e, f, g, h⟩ = m) (w : World) :
    Calls Try.prog 34 #[.int .i64 4, .agg #[.int .i64 a, .int .i64 b, .int .i64 c, .int .i64 d], .agg #[.int .i64 e, .int .i64 f, .int .i64 g, .int .i64 h]] w (RetB m w) := hm ▸ both_any 4 a b c d e f g h w
theorem hasg (a b c d x y : Int) (v : Bool) (hv : inB x y a b c d = v) (w : World) : Calls Try.prog 35 #[.agg #[.int .i64 a, .int .i64 b, .int .i64 c, .int .i64 d], .int .i64 x, .int .i64 y] w fun e w' => e = .returned (.bool v) ∧ Below w.heap.size w w' := hv ▸ has_any a b c d x y w
theorem Nums.oneD {w : World} {g o : Nat} {l : List Int} (h : Nums w (some ⟨g, o, none⟩) l) (hg : g < w.heap.size) {i : Nat} (hi : i < l.length) {x : Int} (hx : l.getD i 0 = x) : One w g (o + i) (.int .i64 x) :=
  ⟨hg, h.one hi (by rw [← hx]; simp [hi])⟩

def tab_grid5 : List (List Nat) := [[], [], [], [2], [], [4], [0, 1, 2, 3, 4, 5], [], [], [], [9], [], [11], [0, 1, 2, 3, 4, 5, 6, 7, 8, 9, 10, 11, 12], [0, 1, 2, 3, 4, 5, 6, 7, 8, 9, 10, 11, 12, 13], [0, 1, 2, 3, 4, 5, 6, 7, 8, 9, 10, 11, 12, 13, 14], [0, 1, 2, 3, 4, 5, 6, 7, 8, 9, 10, 11, 12, 13, 14, 15]]
def tab_grid12 : List (List Nat) := [[], [], [], [2], [1, 2, 3], [1, 2, 3, 4], [], [], [7], [6, 7, 8], [6, 7, 8, 9], [], [], [11, 12], [11, 12, 13], [], [], [15, 16], [15, 16, 17], [1, 2, 3, 4, 5, 6, 7, 8, 9, 10, 11, 12, 13, 14, 15, 16, 17, 18], [0, 1, 2, 3, 4, 5, 6, 7, 8, 9, 10, 11, 12, 13, 14, 15, 16, 17, 18, 19], [0, 1, 2, 3, 4, 5, 6, 7, 8, 9, 10, 11, 12, 13, 14, 15, 16, 17, 18, 19, 20], [0, 1, 2, 3, 4, 5, 6, 7, 8, 9, 10, 11, 12, 13, 14, 15, 16, 17, 18, 19, 20, 21], [0, 1, 2, 3, 4, 5, 6, 7, 8, 9, 10, 11, 12, 13, 14, 15, 16, 17, 18, 19, 20, 21], [], [0, 1, 2, 3, 4, 5, 6, 7, 8, 9, 10, 11, 12, 13, 14, 15, 16, 17, 18, 19, 20, 21, 22, 24], [0, 1, 2, 3, 4, 5, 6, 7, 8, 9, 10, 11, 12, 13, 14, 15, 16, 17, 18, 19, 20, 21, 22, 23, 24, 25]]
set_option maxRecDepth 10000 in
set_option maxHeartbeats 8000000 in
theorem grid_walk (A0 A1 A2 : Option Addr) (n0 c0 n1 c1 n2 c2 : Nat) (z0 z1 z2 : List Int) (x y : Int) (w : World) (h0 : Ints w A0 n0 z0) (h1 : Ints w A1 n1 z1) (h2 : Ints w A2 n2 z2) (hn1 : n1 ≤ 17592186044414) (hn2 : n2 ≤ 17592186044414) :
    Calls Try.prog 10 #[.slice A0 n0 c0, .slice A1 n1 c1, .slice A2 n2 c2, .int .i64 x, .int .i64 y] w fun e w' => e = .returned (.bool true) ∧ Below w.heap.size w w' := by
  have L1 := fun u hu => lrect_any A0 n0 c0 z0 u hu
  generalize rectOf z0 = r at L1
  obtain ⟨a, b, c, d⟩ := r
  have HL1 := Lib.hid L1
  have H0 := Lib.hid h0
  have H12 := Lib.hid (And.intro h1 h2)
  have HN := Lib.hid (And.intro hn1 hn2)
  clear L1 h0 h1 h2 hn1 hn2
  obtain ⟨p, hp⟩ : ∃ p, (!emptyB a b c d) = p := ⟨_, rfl⟩
  obtain ⟨t, ht⟩ : ∃ t, inB x y a b c d = t := ⟨_, rfl⟩
  have HP := Lib.hid hp
  have HT := Lib.hid ht
  clear hp ht
  go_enter Try.func10, Try.ntmps10
  go_wp2_with fail
  refine (HL1.out _ H0.out).mono ?_
  rintro _ w1 ⟨rfl, hb1⟩
  have HB1 := Lib.hid hb1
  clear hb1 HL1 H0
  go_wp2_with fail
  refine (numbers_any _ _ _ _ _).mono ?_
  rintro _ w2 ⟨g2, rfl, hg2, hb2⟩
  have hP := haspoints_any g2 a b c d w2 hg2
  rw [HP.out] at hP
  have hb2' := (HB1.out.alloc HB1.out.size (.cells #[.int .i64 a, .int .i64 b, .int .i64 c, .int .i64 d] 25)).trans (hb2.mono (by rw [size_alloc]; have := HB1.out.size; omega))
  have h11 := (At.new w1 25 [.int .i64 a, .int .i64 b, .int .i64 c, .int .i64 d]).by hb2
  have HB2 := Lib.hid (And.intro h11 hb2')
  have HPC := Lib.hid hP
  clear hP hg2 hb2 hb2' h11
  go_wp2_with fail
  refine HPC.out.mono ?_
  rintro _ w3 ⟨rfl, hb3⟩
  have HB3 := Lib.hid (And.intro (HB2.out.1.by hb3) (HB2.out.2.trans (hb3.mono HB2.out.2.size)))
  clear hb3 HPC HB2 HB1
  generalize w1.heap.size = g11 at *
  cases p with
  | false =>
    go_wp2
    go_ret
    exact ⟨rfl, HB3.out.2⟩
  | true =>
    go_upto_region 5 with fail
    have hle := HP.out
    simp only [emptyB, Bool.not_eq_true', Bool.or_eq_false_iff, decide_eq_false_iff_not] at hle
    have HLE := Lib.hid (show a ≤ c ∧ b ≤ d by omega)
    have hcf : ∀ (args : Array Value) (u : World), (callFunc 32 args).run Try.prog u = .ok (.enter 32 args) u := fun _ _ => by kernel_rfl
    clear hle
    refine from_table tab_grid5 (by kernel_rfl) (by kernel_rfl) (by kernel_rfl) (by kernel_rfl) fun hTab => ?_
    refine from_gen (fun u => At u g11 25 [.int .i64 (a), .int .i64 (b), .int .i64 (c), .int .i64 (d)] ∧ Below w.heap.size w u) ?_ ?_
    · exact ⟨HB3.out.1, HB3.out.2.drew⟩
    intro u hW
    -- operations 0 to 12
    refine from_block' hTab 0 13 (by decide) (by kernel_rfl)
      (fun L a' u => ∃ v26 v27 v28 v29 v30 v31 v32 v33 v34 v35 v36 v37 v38 : Value, a' = ⟨#[Value.slice A0 n0 c0, Value.slice A1 n1 c1, Value.slice A2 n2 c2, .int .i64 x, .int .i64 y, undef, undef, undef, undef, undef, .bool false, .pointer (some ⟨g11, 0, none⟩), Value.func (Fn.func 32) #[] #[], undef, undef, undef, undef, undef, undef, undef, Value.slice A0 n0 c0, .agg #[.int .i64 a, .int .i64 b, .int .i64 c, .int .i64 d], .agg #[.int .i64 a, .int .i64 b, .int .i64 c, .int .i64 d], .slice (some ⟨g2, 0, none⟩) 4 4, .bool true, .bool false, v26, v27, v28, v29, v30, v31, v32, v33, v34, v35, v36, v37, v38, undef, undef, undef, undef, undef, undef, undef, undef, undef, undef, undef, undef, undef, undef, undef, undef, undef, undef, undef, undef, undef, undef, undef, undef, undef, undef, undef, undef, undef, undef, undef, undef, undef, undef, undef, undef, undef, undef, undef, undef, undef, undef, undef, undef, undef, undef, undef, undef, undef, undef, undef, undef, undef, undef, undef, undef, undef, undef, undef, undef, undef, undef, undef, undef, undef, undef], []⟩ ∧
        Hid (L 0 = true → v26 = Value.func (Fn.func 32) #[] #[]) ∧ Hid (L 1 = true → v27 = Value.slice A1 n1 c1) ∧ Hid (L 2 = true → v28 = .pointer (some ⟨g11, 0, none⟩)) ∧ Hid (L 3 = true → v29 = .int .i64 a) ∧ Hid (L 4 = true → v30 = .pointer (some ⟨g11, 2, none⟩)) ∧ Hid (L 5 = true → v31 = .int .i64 c) ∧ Hid (L 6 = true → CutsV u v32 a c n1) ∧ Hid (L 7 = true → v33 = Value.func (Fn.func 32) #[] #[]) ∧ Hid (L 8 = true → v34 = Value.slice A2 n2 c2) ∧ Hid (L 9 = true → v35 = .pointer (some ⟨g11, 1, none⟩)) ∧ Hid (L 10 = true → v36 = .int .i64 b) ∧ Hid (L 11 = true → v37 = .pointer (some ⟨g11, 3, none⟩)) ∧ Hid (L 12 = true → v38 = .int .i64 d) ∧ (At u g11 25 [.int .i64 (a), .int .i64 (b), .int .i64 (c), .int .i64 (d)] ∧ Below w.heap.size w u)) ?_ ?_ ?_
    · exact ⟨_, _, _, _, _, _, _, _, _, _, _, _, _, rfl, (Lib.hid fun h => by cases h), (Lib.hid fun h => by cases h), (Lib.hid fun h => by cases h), (Lib.hid fun h => by cases h), (Lib.hid fun h => by cases h), (Lib.hid fun h => by cases h), (Lib.hid fun h => by cases h), (Lib.hid fun h => by cases h), (Lib.hid fun h => by cases h), (Lib.hid fun h => by cases h), (Lib.hid fun h => by cases h), (Lib.hid fun h => by cases h), (Lib.hid fun h => by cases h), hW⟩
    · clear hW
      intro L a' u i hi1 hi2 hI hL hd
      obtain ⟨v26, v27, v28, v29, v30, v31, v32, v33, v34, v35, v36, v37, v38, rfl, k0, k1, k2, k3, k4, k5, k6, k7, k8, k9, k10, k11, k12, hW⟩ := hI
      obtain rfl | rfl | rfl | rfl | rfl | rfl | rfl | rfl | rfl | rfl | rfl | rfl | rfl := (show ∀ i : Nat, 0 ≤ i → i < 13 → (i = 0 ∨ i = 1 ∨ i = 2 ∨ i = 3 ∨ i = 4 ∨ i = 5 ∨ i = 6 ∨ i = 7 ∨ i = 8 ∨ i = 9 ∨ i = 10 ∨ i = 11 ∨ i = 12) by omega) i hi1 hi2
      · -- operation 0
        have HW := Lib.hid hW
        clear hW hL hd hi1 hi2
        refine wpOp_step rfl fun K hK => ?_
        go_simp
        refine hK _ _ ⟨_, _, _, _, _, _, _, _, _, _, _, _, _, rfl, (Lib.hid fun _ => rfl), k1, k2, k3, k4, k5, k6, k7, k8, k9, k10, k11, k12, HW.out⟩
      · -- operation 1
        have HW := Lib.hid hW
        clear hW hL hd hi1 hi2
        refine wpOp_step rfl fun K hK => ?_
        go_simp
        refine hK _ _ ⟨_, _, _, _, _, _, _, _, _, _, _, _, _, rfl, k0, (Lib.hid fun _ => rfl), k2, k3, k4, k5, k6, k7, k8, k9, k10, k11, k12, HW.out⟩
      · -- operation 2
        have HW := Lib.hid hW
        clear hW hL hd hi1 hi2
        refine wpOp_step rfl fun K hK => ?_
        go_simp
        refine hK _ _ ⟨_, _, _, _, _, _, _, _, _, _, _, _, _, rfl, k0, k1, (Lib.hid fun _ => rfl), k3, k4, k5, k6, k7, k8, k9, k10, k11, k12, HW.out⟩
      · -- operation 3
        obtain rfl := k2.out (hd 2 (by decide))
        obtain ⟨c0, c1, c2, c3⟩ := hW.1.four.1
        have HW := Lib.hid hW
        clear hW hL hd hi1 hi2
        refine wpOp_step rfl fun K hK => ?_
        go_simp
        refine hK _ _ ⟨_, _, _, _, _, _, _, _, _, _, _, _, _, rfl, k0, k1, k2, (Lib.hid fun _ => rfl), k4, k5, k6, k7, k8, k9, k10, k11, k12, HW.out⟩
      · -- operation 4
        have HW := Lib.hid hW
        clear hW hL hd hi1 hi2
        refine wpOp_step rfl fun K hK => ?_
        go_simp
        refine hK _ _ ⟨_, _, _, _, _, _, _, _, _, _, _, _, _, rfl, k0, k1, k2, k3, (Lib.hid fun _ => rfl), k5, k6, k7, k8, k9, k10, k11, k12, HW.out⟩
      · -- operation 5
        obtain rfl := k4.out (hd 4 (by decide))
        obtain ⟨c0, c1, c2, c3⟩ := hW.1.four.1
        have HW := Lib.hid hW
        clear hW hL hd hi1 hi2
        refine wpOp_step rfl fun K hK => ?_
        go_simp
        refine hK _ _ ⟨_, _, _, _, _, _, _, _, _, _, _, _, _, rfl, k0, k1, k2, k3, k4, (Lib.hid fun _ => rfl), k6, k7, k8, k9, k10, k11, k12, HW.out⟩
      · -- operation 6
        obtain rfl := k0.out (hd 0 (by decide))
        obtain rfl := k1.out (hd 1 (by decide))
        obtain rfl := k3.out (hd 3 (by decide))
        obtain rfl := k5.out (hd 5 (by decide))
        have HW := Lib.hid hW
        clear hW hL hd hi1 hi2
        refine wpOp_step rfl fun K hK => ?_
        go_simp
        refine (clamp_cuts A1 n1 c1 z1 a c _ (H12.out.1.below (Nat.le_refl _) HW.out.2) HN.out.1 HLE.out.1).mono ?_
        rintro _ w' ⟨v, rfl, ho, hb⟩
        refine hK _ _ ⟨_, _, _, _, _, _, _, _, _, _, _, _, _, rfl, k0, k1, k2, k3, k4, k5, (Lib.hid fun _ => ho), k7, k8, k9, k10, k11, k12, ⟨HW.out.1.by hb, HW.out.2.trans (hb.mono HW.out.2.size)⟩⟩
      · -- operation 7
        have HW := Lib.hid hW
        clear hW hL hd hi1 hi2
        refine wpOp_step rfl fun K hK => ?_
        go_simp
        refine hK _ _ ⟨_, _, _, _, _, _, _, _, _, _, _, _, _, rfl, k0, k1, k2, k3, k4, k5, k6, (Lib.hid fun _ => rfl), k8, k9, k10, k11, k12, HW.out⟩
      · -- operation 8
        have HW := Lib.hid hW
        clear hW hL hd hi1 hi2
        refine wpOp_step rfl fun K hK => ?_
        go_simp
        refine hK _ _ ⟨_, _, _, _, _, _, _, _, _, _, _, _, _, rfl, k0, k1, k2, k3, k4, k5, k6, k7, (Lib.hid fun _ => rfl), k9, k10, k11, k12, HW.out⟩
      · -- operation 9
        have HW := Lib.hid hW
        clear hW hL hd hi1 hi2
        refine wpOp_step rfl fun K hK => ?_
        go_simp
        refine hK _ _ ⟨_, _, _, _, _, _, _, _, _, _, _, _, _, rfl, k0, k1, k2, k3, k4, k5, k6, k7, k8, (Lib.hid fun _ => rfl), k10, k11, k12, HW.out⟩
      · -- operation 10
        obtain rfl := k9.out (hd 9 (by decide))
        obtain ⟨c0, c1, c2, c3⟩ := hW.1.four.1
        have HW := Lib.hid hW
        clear hW hL hd hi1 hi2
        refine wpOp_step rfl fun K hK => ?_
        go_simp
        refine hK _ _ ⟨_, _, _, _, _, _, _, _, _, _, _, _, _, rfl, k0, k1, k2, k3, k4, k5, k6, k7, k8, k9, (Lib.hid fun _ => rfl), k11, k12, HW.out⟩
      · -- operation 11
        have HW := Lib.hid hW
        clear hW hL hd hi1 hi2
        refine wpOp_step rfl fun K hK => ?_
        go_simp
        refine hK _ _ ⟨_, _, _, _, _, _, _, _, _, _, _, _, _, rfl, k0, k1, k2, k3, k4, k5, k6, k7, k8, k9, k10, (Lib.hid fun _ => rfl), k12, HW.out⟩
      · -- operation 12
        obtain rfl := k11.out (hd 11 (by decide))
        obtain ⟨c0, c1, c2, c3⟩ := hW.1.four.1
        have HW := Lib.hid hW
        clear hW hL hd hi1 hi2
        refine wpOp_step rfl fun K hK => ?_
        go_simp
        refine hK _ _ ⟨_, _, _, _, _, _, _, _, _, _, _, _, _, rfl, k0, k1, k2, k3, k4, k5, k6, k7, k8, k9, k10, k11, (Lib.hid fun _ => rfl), HW.out⟩
    clear hW
    clear u
    intro L a' u hI hall
    obtain ⟨v26, v27, v28, v29, v30, v31, v32, v33, v34, v35, v36, v37, v38, rfl, k0, k1, k2, k3, k4, k5, k6, k7, k8, k9, k10, k11, k12, hW⟩ := hI
    obtain rfl := k0.out (hall 0 (by decide))
    obtain rfl := k1.out (hall 1 (by decide))
    obtain rfl := k2.out (hall 2 (by decide))
    obtain rfl := k3.out (hall 3 (by decide))
    obtain rfl := k4.out (hall 4 (by decide))
    obtain rfl := k5.out (hall 5 (by decide))
    have x6 := k6.out (hall 6 (by decide))
    obtain rfl := k7.out (hall 7 (by decide))
    obtain rfl := k8.out (hall 8 (by decide))
    obtain rfl := k9.out (hall 9 (by decide))
    obtain rfl := k10.out (hall 10 (by decide))
    obtain rfl := k11.out (hall 11 (by decide))
    obtain rfl := k12.out (hall 12 (by decide))
    clear k0 k1 k2 k3 k4 k5 k6 k7 k8 k9 k10 k11 k12 hall L
    -- operations 13 to 13
    refine from_block' hTab 13 14 (by decide) (by kernel_rfl)
      (fun L a' u => ∃ v39 : Value, a' = ⟨#[Value.slice A0 n0 c0, Value.slice A1 n1 c1, Value.slice A2 n2 c2, .int .i64 x, .int .i64 y, undef, undef, undef, undef, undef, .bool false, .pointer (some ⟨g11, 0, none⟩), Value.func (Fn.func 32) #[] #[], undef, undef, undef, undef, undef, undef, undef, Value.slice A0 n0 c0, .agg #[.int .i64 a, .int .i64 b, .int .i64 c, .int .i64 d], .agg #[.int .i64 a, .int .i64 b, .int .i64 c, .int .i64 d], .slice (some ⟨g2, 0, none⟩) 4 4, .bool true, .bool false, Value.func (Fn.func 32) #[] #[], Value.slice A1 n1 c1, .pointer (some ⟨g11, 0, none⟩), .int .i64 a, .pointer (some ⟨g11, 2, none⟩), .int .i64 c, v32, Value.func (Fn.func 32) #[] #[], Value.slice A2 n2 c2, .pointer (some ⟨g11, 1, none⟩), .int .i64 b, .pointer (some ⟨g11, 3, none⟩), .int .i64 d, v39, undef, undef, undef, undef, undef, undef, undef, undef, undef, undef, undef, undef, undef, undef, undef, undef, undef, undef, undef, undef, undef, undef, undef, undef, undef, undef, undef, undef, undef, undef, undef, undef, undef, undef, undef, undef, undef, undef, undef, undef, undef, undef, undef, undef, undef, undef, undef, undef, undef, undef, undef, undef, undef, undef, undef, undef, undef, undef, undef, undef, undef, undef, undef, undef, undef], []⟩ ∧
        Hid (L 13 = true → CutsV u v39 b d n2) ∧ (At u g11 25 [.int .i64 (a), .int .i64 (b), .int .i64 (c), .int .i64 (d)] ∧ Below w.heap.size w u) ∧ (CutsV u v32 a c n1)) ?_ ?_ ?_
    · exact ⟨_, rfl, (Lib.hid fun h => by cases h), hW, x6⟩
    · clear hW x6
      intro L a' u i hi1 hi2 hI hL hd
      obtain ⟨v39, rfl, k13, hW, x6⟩ := hI
      obtain rfl := (show ∀ i : Nat, 13 ≤ i → i < 14 → (i = 13) by omega) i hi1 hi2
      · -- operation 13
        have HW := Lib.hid hW
        have Hx6 := Lib.hid x6
        clear hW x6 hL hd hi1 hi2
        refine wpOp_step rfl fun K hK => ?_
        go_simp
        refine (clamp_cuts A2 n2 c2 z2 b d _ (H12.out.2.below (Nat.le_refl _) HW.out.2) HN.out.2 HLE.out.2).mono ?_
        rintro _ w' ⟨v, rfl, ho, hb⟩
        refine hK _ _ ⟨_, rfl, (Lib.hid fun _ => ho), ⟨⟨HW.out.1.by hb, HW.out.2.trans (hb.mono HW.out.2.size)⟩, (Hx6.out.by hb)⟩⟩
    clear hW x6
    clear u
    intro L a' u hI hall
    obtain ⟨v39, rfl, k13, hW, x6⟩ := hI
    have x13 := k13.out (hall 13 (by decide))
    clear k13 hall L
    -- operation 14 alone
    refine from_one' hTab 14 (by kernel_rfl) ?_
    have HW := Lib.hid hW
    have Hx6 := Lib.hid x6
    have Hx13 := Lib.hid x13
    clear hW x6 x13
    refine wpOp_step rfl fun K hK => ?_
    go_simp
    refine hK _ _ ?_
    clear hK K
    have hW := HW.out
    have x6 := Hx6.out
    have x13 := Hx13.out
    clear HW Hx6 Hx13
    -- operation 15 alone
    refine from_one' hTab 15 (by kernel_rfl) ?_
    have HW := Lib.hid hW
    have Hx6 := Lib.hid x6
    have Hx13 := Lib.hid x13
    clear hW x6 x13
    refine wpOp_step rfl fun K hK => ?_
    go_simp
    refine hK _ _ ?_
    clear hK K
    have hW := HW.out
    have x6 := Hx6.out
    have x13 := Hx13.out
    clear HW Hx6 Hx13
    -- operation 16 alone
    refine from_one' hTab 16 (by kernel_rfl) ?_
    have HW := Lib.hid hW
    have Hx6 := Lib.hid x6
    have Hx13 := Lib.hid x13
    clear hW x6 x13
    refine wpOp_step rfl fun K hK => ?_
    go_simp
    refine hK _ _ ?_
    clear hK K
    have hW := HW.out
    have x6 := Hx6.out
    have x13 := Hx13.out
    clear HW Hx6 Hx13
    refine from_end' hTab 17 (by kernel_rfl) ?_
    clear hTab
    obtain ⟨A13, c13, l1, rfl, hc1, hl1, hNum1⟩ := x6
    obtain ⟨A14, c14, l2, rfl, hc2, hl2, hNum2⟩ := x13
    obtain ⟨N1, hN1⟩ : ∃ N, l1.length = N := ⟨_, rfl⟩
    obtain ⟨N2, hN2⟩ : ∃ N, l2.length = N := ⟨_, rfl⟩
    rw [hN1] at hl1 ⊢
    rw [hN2] at hl2 ⊢
    have hb1 : N1 ≤ 17592186044416 := by have := HN.out.1; omega
    have hb2 : N2 ≤ 17592186044416 := by have := HN.out.2; omega
    have HC := Lib.hid (And.intro (And.intro hc1 hN1) (And.intro hc2 hN2))
    have HM := Lib.hid (And.intro hNum1 (And.intro hNum2 hW))
    have HBD := Lib.hid (And.intro hb1 hb2)
    have htr : t = true → (a ≤ x ∧ x < c) ∧ b ≤ y ∧ y < d := by
      intro h
      have := HT.out
      rw [h] at this
      simp [inB] at this
      omega
    have HTR := Lib.hid htr
    clear hc1 hc2 hl1 hl2 hN1 hN2 hNum1 hNum2 hW hb1 hb2 htr hcf
    obtain ⟨w5, hw5⟩ : ∃ w5, w5 = u := ⟨_, rfl⟩
    rw [← hw5] at HM ⊢
    clear hw5
    go_wp2
    go_loopw [15, 16] (fun cv iv wr => ∃ i : Nat, 1 ≤ i ∧ i ≤ N1 ∧ cv = .int .i64 (gI t x (l1.getD (i - 1) 0)) ∧ iv = .int .i64 i ∧ Below w5.heap.size w5 wr) (fun _ iv _ => N1 - (intOf iv).toNat)
    case atStart =>
      refine ⟨1, Nat.le_refl _, by have := HC.out.1; have := this.1.1; omega, ?_, rfl, Below.refl _ _⟩
      rw [Nat.sub_self, HC.out.1.1.2.2.1, g_first t x a fun h => (HTR.out h).1.1]
    case round =>
      obtain ⟨ix, hi1, hi2, rfl, rfl, hbel⟩ := hrel
      by_cases hlt : ix < N1
      · obtain ⟨p, hp⟩ : ∃ p, l1.getD (ix - 1) 0 = p := ⟨_, rfl⟩
        obtain ⟨q, hq⟩ : ∃ q, l1.getD ix 0 = q := ⟨_, rfl⟩
        have hpq : p ≤ q := by rw [← hp, ← hq]; exact HC.out.1.1.le (by omega) (by rw [HC.out.1.2]; exact hlt)
        rw [hp]
        have HPQ := Lib.hid (And.intro hp (And.intro hq hpq))
        have HB := Lib.hid hbel
        have hbi := HBD.out
        have hiw : IntKind.i64.wrap ((ix : Int) + 1) = (ix : Int) + 1 := IntWalk.i64_in _ (by omega)
        clear hp hq hpq hbel hbi
        go_wp2
        generalize wr = wi at *
        go_loopw [15, 17] (fun cv kv wr => ∃ iy : Nat, 1 ≤ iy ∧ iy ≤ N2 ∧ cv = .int .i64 (gI t x p + gC t x p q y (l2.getD (iy - 1) 0)) ∧ kv = .int .i64 iy ∧ Below w5.heap.size w5 wr) (fun _ kv _ => N2 - (intOf kv).toNat)
        case atStart =>
          refine ⟨1, Nat.le_refl _, by have := HC.out.2; have := this.1.1; omega, ?_, rfl, HB.out⟩
          rw [Nat.sub_self, HC.out.2.1.2.2.1, g_row t x p q y b fun h => (HTR.out h).2.1, Int.add_zero]
        case round =>
          obtain ⟨iy, hk1, hk2, rfl, rfl, hbel⟩ := hrel
          by_cases hltk : iy < N2
          · obtain ⟨s, hs⟩ : ∃ s, l2.getD (iy - 1) 0 = s := ⟨_, rfl⟩
            obtain ⟨s', hs'⟩ : ∃ s', l2.getD iy 0 = s' := ⟨_, rfl⟩
            have hss : s ≤ s' := by rw [← hs, ← hs']; exact HC.out.2.1.le (by omega) (by rw [HC.out.2.2]; exact hltk)
            rw [hs]
            obtain ⟨cc, hcc⟩ : ∃ cc, gI t x p + gC t x p q y s = cc := ⟨_, rfl⟩
            have hccb : 0 ≤ cc ∧ cc ≤ 2 := by
              have h1 := gI_le t x p
              have h2 := gC_le t x p q y s
              omega
            rw [hcc]
            obtain ⟨⟨e, f, g', h'⟩, hin⟩ : ∃ m, inter ⟨a, b, c, d⟩ ⟨p, s, q, s'⟩ = m := ⟨_, rfl⟩
            have hhas : inB x y e f g' h' = (t && inB x y p s q s') := by
              have h1 := has_inter ⟨a, b, c, d⟩ ⟨p, s, q, s'⟩ x y
              rw [hin] at h1
              simp only [R.has] at h1
              rw [h1, HT.out]
            obtain ⟨ib, hib⟩ : ∃ ib, (t && inB x y p s q s') = ib := ⟨_, rfl⟩
            rw [hib] at hhas
            have hst := g_step t x p q y s s' hss
            rw [hib, hcc] at hst
            obtain ⟨gA, oA, hA, hgA⟩ := (HM.out.1.by hbel).at_ (i := ix) (by rw [HC.out.1.2]; exact hlt)
            subst hA
            obtain ⟨gD, oD, hD, hgD⟩ := (HM.out.2.1.by hbel).at_ (i := iy) (by rw [HC.out.2.2]; exact hltk)
            subst hD
            have HF := Lib.hid (And.intro (HM.out.2.2.1.by hbel) (And.intro ((HM.out.1.by hbel).oneD hgA.1 (i := ix - 1) (by rw [HC.out.1.2]; omega) HPQ.out.1) (And.intro ((HM.out.1.by hbel).oneD hgA.1 (i := ix) (by rw [HC.out.1.2]; exact hlt) HPQ.out.2.1) (And.intro ((HM.out.2.1.by hbel).oneD hgD.1 (i := iy - 1) (by rw [HC.out.2.2]; omega) hs) ((HM.out.2.1.by hbel).oneD hgD.1 (i := iy) (by rw [HC.out.2.2]; exact hltk) hs')))))
            have HBO := Lib.hid (fun u => bothg a b c d p s q s' _ hin u)
            have HH := Lib.hid (fun u => hasg e f g' h' x y _ hhas u)
            have HST := Lib.hid (And.intro hst (And.intro hcc (And.intro hccb hs')))
            have HBEL := Lib.hid hbel
            have hbd := HBD.out
            have x1 : IntKind.i64.wrap ((ix : Int) - 1) = (ix : Int) - 1 := IntWalk.i64_in _ (by omega)
            have x2 : 0 ≤ (ix : Int) - 1 := by omega
            have x3 : (ix : Int) - 1 < N1 := by omega
            have x4 : ((ix : Int) - 1).toNat = ix - 1 := by omega
            have x5 : 1 ≤ (ix : Int) := by omega
            have x6 : ix ≤ N1 := by omega
            have y1 : IntKind.i64.wrap ((iy : Int) - 1) = (iy : Int) - 1 := IntWalk.i64_in _ (by omega)
            have y2 : 0 ≤ (iy : Int) - 1 := by omega
            have y3 : (iy : Int) - 1 < N2 := by omega
            have y4 : ((iy : Int) - 1).toNat = iy - 1 := by omega
            have y5 : 1 ≤ (iy : Int) := by omega
            have y6 : iy ≤ N2 := by omega
            have hiyw : IntKind.i64.wrap ((iy : Int) + 1) = (iy : Int) + 1 := IntWalk.i64_in _ (by omega)
            have hccw : IntKind.i64.wrap (cc + 1) = cc + 1 := IntWalk.i64_in _ (by omega)
            have HWR := Lib.hid (And.intro hiyw hccw)
            clear hiyw hccw
            clear hs hs' hss hcc hccb hin hhas hib hst hgA hgD hbel hbd
            go_upto_region 12 with fail
            refine from_table tab_grid12 (by kernel_rfl) (by kernel_rfl) (by kernel_rfl) (by kernel_rfl) fun hTab => ?_
            refine from_gen (fun u => Below wr.heap.size wr u) ?_ ?_
            · exact (Below.refl _ _).drew
            intro u hW
            -- operations 0 to 25
            refine from_block' hTab 0 26 (by decide) (by kernel_rfl)
              (fun L a' u => ∃ v18 v52 v53 v54 v55 v56 v57 v58 v59 v60 v61 v62 v63 v64 v65 v66 v67 v68 v69 v70 v71 v72 v73 v74 v75 : Value, a' = ⟨#[Value.slice A0 n0 c0, Value.slice A1 n1 c1, Value.slice A2 n2 c2, .int .i64 x, .int .i64 y, undef, undef, undef, undef, undef, u10, .pointer (some ⟨g11, 0, none⟩), Value.func (Fn.func 32) #[] #[], .slice (some ⟨gA, oA, none⟩) N1 c13, .slice (some ⟨gD, oD, none⟩) N2 c14, .int .i64 cc, .int .i64 ↑ix, .int .i64 ↑iy, v18, u19, Value.slice A0 n0 c0, .agg #[.int .i64 a, .int .i64 b, .int .i64 c, .int .i64 d], .agg #[.int .i64 a, .int .i64 b, .int .i64 c, .int .i64 d], .slice (some ⟨g2, 0, none⟩) 4 4, .bool true, .bool false, Value.func (Fn.func 32) #[] #[], Value.slice A1 n1 c1, .pointer (some ⟨g11, 0, none⟩), .int .i64 a, .pointer (some ⟨g11, 2, none⟩), .int .i64 c, .slice (some ⟨gA, oA, none⟩) N1 c13, Value.func (Fn.func 32) #[] #[], Value.slice A2 n2 c2, .pointer (some ⟨g11, 1, none⟩), .int .i64 b, .pointer (some ⟨g11, 3, none⟩), .int .i64 d, .slice (some ⟨gD, oD, none⟩) N2 c14, .int .i64 ↑ix, .slice (some ⟨gA, oA, none⟩) N1 c13, .int .i64 ↑N1, .bool true, u44, u45, .int .i64 ↑iy, .slice (some ⟨gD, oD, none⟩) N2 c14, .int .i64 ↑N2, .bool true, u50, u51, v52, v53, v54, v55, v56, v57, v58, v59, v60, v61, v62, v63, v64, v65, v66, v67, v68, v69, v70, v71, v72, v73, v74, v75, u76, u77, u78, u79, u80, u81, u82, u83, undef, undef, undef, undef, undef, undef, undef, undef, undef, undef, undef, undef, undef, undef, undef, undef, undef, undef, undef, undef, undef], []⟩ ∧
                Hid (L 0 = true → v53 = .agg #[.int .i64 a, .int .i64 b, .int .i64 c, .int .i64 d]) ∧ Hid (L 1 = true → v54 = .slice (some ⟨gA, oA, none⟩) N1 c13) ∧ Hid (L 2 = true → v55 = .int .i64 ↑ix) ∧ Hid (L 3 = true → v56 = .int .i64 (↑ix - 1)) ∧ Hid (L 4 = true → v57 = .pointer (some ⟨gA, oA + (ix - 1), none⟩)) ∧ Hid (L 5 = true → v58 = .int .i64 p) ∧ Hid (L 6 = true → v59 = .slice (some ⟨gD, oD, none⟩) N2 c14) ∧ Hid (L 7 = true → v60 = .int .i64 ↑iy) ∧ Hid (L 8 = true → v61 = .int .i64 (↑iy - 1)) ∧ Hid (L 9 = true → v62 = .pointer (some ⟨gD, oD + (iy - 1), none⟩)) ∧ Hid (L 10 = true → v63 = .int .i64 s) ∧ Hid (L 11 = true → v64 = .slice (some ⟨gA, oA, none⟩) N1 c13) ∧ Hid (L 12 = true → v65 = .int .i64 ↑ix) ∧ Hid (L 13 = true → v66 = .pointer (some ⟨gA, oA + ix, none⟩)) ∧ Hid (L 14 = true → v67 = .int .i64 q) ∧ Hid (L 15 = true → v68 = .slice (some ⟨gD, oD, none⟩) N2 c14) ∧ Hid (L 16 = true → v69 = .int .i64 ↑iy) ∧ Hid (L 17 = true → v70 = .pointer (some ⟨gD, oD + iy, none⟩)) ∧ Hid (L 18 = true → v71 = .int .i64 s') ∧ Hid (L 19 = true → v72 = .agg #[.int .i64 p, .int .i64 s, .int .i64 q, .int .i64 s']) ∧ Hid (L 20 = true → v73 = .tuple #[.agg #[.int .i64 e, .int .i64 f, .int .i64 g', .int .i64 h'], .bool true]) ∧ Hid (L 21 = true → v52 = .tuple #[.agg #[.int .i64 e, .int .i64 f, .int .i64 g', .int .i64 h'], .bool true]) ∧ Hid (L 22 = true → v74 = .agg #[.int .i64 e, .int .i64 f, .int .i64 g', .int .i64 h']) ∧ Hid (L 23 = true → v75 = .bool true) ∧ Hid (L 24 = true → ∃ g18, v18 = .pointer (some ⟨g18, 0, none⟩) ∧ wr.heap.size ≤ g18 ∧ At u g18 25 (bif L 25 then [.int .i64 e, .int .i64 f, .int .i64 g', .int .i64 h'] else [.int .i64 0, .int .i64 0, .int .i64 0, .int .i64 0])) ∧ Hid (L 25 = true → L 24 = true) ∧ (Below wr.heap.size wr u)) ?_ ?_ ?_
            · exact ⟨_, _, _, _, _, _, _, _, _, _, _, _, _, _, _, _, _, _, _, _, _, _, _, _, _, rfl, (Lib.hid fun h => by cases h), (Lib.hid fun h => by cases h), (Lib.hid fun h => by cases h), (Lib.hid fun h => by cases h), (Lib.hid fun h => by cases h), (Lib.hid fun h => by cases h), (Lib.hid fun h => by cases h), (Lib.hid fun h => by cases h), (Lib.hid fun h => by cases h), (Lib.hid fun h => by cases h), (Lib.hid fun h => by cases h), (Lib.hid fun h => by cases h), (Lib.hid fun h => by cases h), (Lib.hid fun h => by cases h), (Lib.hid fun h => by cases h), (Lib.hid fun h => by cases h), (Lib.hid fun h => by cases h), (Lib.hid fun h => by cases h), (Lib.hid fun h => by cases h), (Lib.hid fun h => by cases h), (Lib.hid fun h => by cases h), (Lib.hid fun h => by cases h), (Lib.hid fun h => by cases h), (Lib.hid fun h => by cases h), (Lib.hid fun h => by cases h), (Lib.hid fun h => by cases h), hW⟩
            · clear hW
              intro L a' u i hi1 hi2 hI hL hd
              obtain ⟨v18, v52, v53, v54, v55, v56, v57, v58, v59, v60, v61, v62, v63, v64, v65, v66, v67, v68, v69, v70, v71, v72, v73, v74, v75, rfl, k0, k1, k2, k3, k4, k5, k6, k7, k8, k9, k10, k11, k12, k13, k14, k15, k16, k17, k18, k19, k20, k21, k22, k23, k24, q25, hW⟩ := hI
              obtain rfl | rfl | rfl | rfl | rfl | rfl | rfl | rfl | rfl | rfl | rfl | rfl | rfl | rfl | rfl | rfl | rfl | rfl | rfl | rfl | rfl | rfl | rfl | rfl | rfl | rfl := (show ∀ i : Nat, 0 ≤ i → i < 26 → (i = 0 ∨ i = 1 ∨ i = 2 ∨ i = 3 ∨ i = 4 ∨ i = 5 ∨ i = 6 ∨ i = 7 ∨ i = 8 ∨ i = 9 ∨ i = 10 ∨ i = 11 ∨ i = 12 ∨ i = 13 ∨ i = 14 ∨ i = 15 ∨ i = 16 ∨ i = 17 ∨ i = 18 ∨ i = 19 ∨ i = 20 ∨ i = 21 ∨ i = 22 ∨ i = 23 ∨ i = 24 ∨ i = 25) by omega) i hi1 hi2
              · -- operation 0
                obtain ⟨c0, c1, c2, c3⟩ := (HF.out.1.by hW).four.1
                have HW := Lib.hid hW
                clear hW hL hd hi1 hi2
                refine wpOp_step rfl fun K hK => ?_
                go_simp
                refine hK _ _ ⟨_, _, _, _, _, _, _, _, _, _, _, _, _, _, _, _, _, _, _, _, _, _, _, _, _, rfl, (Lib.hid fun _ => rfl), k1, k2, k3, k4, k5, k6, k7, k8, k9, k10, k11, k12, k13, k14, k15, k16, k17, k18, k19, k20, k21, k22, k23, k24, q25, HW.out⟩
              · -- operation 1
                have HW := Lib.hid hW
                clear hW hL hd hi1 hi2
                refine wpOp_step rfl fun K hK => ?_
                go_simp
                refine hK _ _ ⟨_, _, _, _, _, _, _, _, _, _, _, _, _, _, _, _, _, _, _, _, _, _, _, _, _, rfl, k0, (Lib.hid fun _ => rfl), k2, k3, k4, k5, k6, k7, k8, k9, k10, k11, k12, k13, k14, k15, k16, k17, k18, k19, k20, k21, k22, k23, k24, q25, HW.out⟩
              · -- operation 2
                have HW := Lib.hid hW
                clear hW hL hd hi1 hi2
                refine wpOp_step rfl fun K hK => ?_
                go_simp
                refine hK _ _ ⟨_, _, _, _, _, _, _, _, _, _, _, _, _, _, _, _, _, _, _, _, _, _, _, _, _, rfl, k0, k1, (Lib.hid fun _ => rfl), k3, k4, k5, k6, k7, k8, k9, k10, k11, k12, k13, k14, k15, k16, k17, k18, k19, k20, k21, k22, k23, k24, q25, HW.out⟩
              · -- operation 3
                obtain rfl := k2.out (hd 2 (by decide))
                have HW := Lib.hid hW
                clear hW hL hd hi1 hi2
                refine wpOp_step rfl fun K hK => ?_
                go_simp
                refine hK _ _ ⟨_, _, _, _, _, _, _, _, _, _, _, _, _, _, _, _, _, _, _, _, _, _, _, _, _, rfl, k0, k1, k2, (Lib.hid fun _ => rfl), k4, k5, k6, k7, k8, k9, k10, k11, k12, k13, k14, k15, k16, k17, k18, k19, k20, k21, k22, k23, k24, q25, HW.out⟩
              · -- operation 4
                obtain rfl := k1.out (hd 1 (by decide))
                obtain rfl := k3.out (hd 3 (by decide))
                have HW := Lib.hid hW
                clear hW hL hd hi1 hi2
                refine wpOp_step rfl fun K hK => ?_
                go_simp
                refine hK _ _ ⟨_, _, _, _, _, _, _, _, _, _, _, _, _, _, _, _, _, _, _, _, _, _, _, _, _, rfl, k0, k1, k2, k3, (Lib.hid fun _ => rfl), k5, k6, k7, k8, k9, k10, k11, k12, k13, k14, k15, k16, k17, k18, k19, k20, k21, k22, k23, k24, q25, HW.out⟩
              · -- operation 5
                obtain rfl := k4.out (hd 4 (by decide))
                have c0 := (HF.out.2.1.by hW).2
                have HW := Lib.hid hW
                clear hW hL hd hi1 hi2
                refine wpOp_step rfl fun K hK => ?_
                go_simp
                refine hK _ _ ⟨_, _, _, _, _, _, _, _, _, _, _, _, _, _, _, _, _, _, _, _, _, _, _, _, _, rfl, k0, k1, k2, k3, k4, (Lib.hid fun _ => rfl), k6, k7, k8, k9, k10, k11, k12, k13, k14, k15, k16, k17, k18, k19, k20, k21, k22, k23, k24, q25, HW.out⟩
              · -- operation 6
                have HW := Lib.hid hW
                clear hW hL hd hi1 hi2
                refine wpOp_step rfl fun K hK => ?_
                go_simp
                refine hK _ _ ⟨_, _, _, _, _, _, _, _, _, _, _, _, _, _, _, _, _, _, _, _, _, _, _, _, _, rfl, k0, k1, k2, k3, k4, k5, (Lib.hid fun _ => rfl), k7, k8, k9, k10, k11, k12, k13, k14, k15, k16, k17, k18, k19, k20, k21, k22, k23, k24, q25, HW.out⟩
              · -- operation 7
                have HW := Lib.hid hW
                clear hW hL hd hi1 hi2
                refine wpOp_step rfl fun K hK => ?_
                go_simp
                refine hK _ _ ⟨_, _, _, _, _, _, _, _, _, _, _, _, _, _, _, _, _, _, _, _, _, _, _, _, _, rfl, k0, k1, k2, k3, k4, k5, k6, (Lib.hid fun _ => rfl), k8, k9, k10, k11, k12, k13, k14, k15, k16, k17, k18, k19, k20, k21, k22, k23, k24, q25, HW.out⟩
              · -- operation 8
                obtain rfl := k7.out (hd 7 (by decide))
                have HW := Lib.hid hW
                clear hW hL hd hi1 hi2
                refine wpOp_step rfl fun K hK => ?_
                go_simp
                refine hK _ _ ⟨_, _, _, _, _, _, _, _, _, _, _, _, _, _, _, _, _, _, _, _, _, _, _, _, _, rfl, k0, k1, k2, k3, k4, k5, k6, k7, (Lib.hid fun _ => rfl), k9, k10, k11, k12, k13, k14, k15, k16, k17, k18, k19, k20, k21, k22, k23, k24, q25, HW.out⟩
              · -- operation 9
                obtain rfl := k6.out (hd 6 (by decide))
                obtain rfl := k8.out (hd 8 (by decide))
                have HW := Lib.hid hW
                clear hW hL hd hi1 hi2
                refine wpOp_step rfl fun K hK => ?_
                go_simp
                refine hK _ _ ⟨_, _, _, _, _, _, _, _, _, _, _, _, _, _, _, _, _, _, _, _, _, _, _, _, _, rfl, k0, k1, k2, k3, k4, k5, k6, k7, k8, (Lib.hid fun _ => rfl), k10, k11, k12, k13, k14, k15, k16, k17, k18, k19, k20, k21, k22, k23, k24, q25, HW.out⟩
              · -- operation 10
                obtain rfl := k9.out (hd 9 (by decide))
                have c0 := (HF.out.2.2.2.1.by hW).2
                have HW := Lib.hid hW
                clear hW hL hd hi1 hi2
                refine wpOp_step rfl fun K hK => ?_
                go_simp
                refine hK _ _ ⟨_, _, _, _, _, _, _, _, _, _, _, _, _, _, _, _, _, _, _, _, _, _, _, _, _, rfl, k0, k1, k2, k3, k4, k5, k6, k7, k8, k9, (Lib.hid fun _ => rfl), k11, k12, k13, k14, k15, k16, k17, k18, k19, k20, k21, k22, k23, k24, q25, HW.out⟩
              · -- operation 11
                have HW := Lib.hid hW
                clear hW hL hd hi1 hi2
                refine wpOp_step rfl fun K hK => ?_
                go_simp
                refine hK _ _ ⟨_, _, _, _, _, _, _, _, _, _, _, _, _, _, _, _, _, _, _, _, _, _, _, _, _, rfl, k0, k1, k2, k3, k4, k5, k6, k7, k8, k9, k10, (Lib.hid fun _ => rfl), k12, k13, k14, k15, k16, k17, k18, k19, k20, k21, k22, k23, k24, q25, HW.out⟩
              · -- operation 12
                have HW := Lib.hid hW
                clear hW hL hd hi1 hi2
                refine wpOp_step rfl fun K hK => ?_
                go_simp
                refine hK _ _ ⟨_, _, _, _, _, _, _, _, _, _, _, _, _, _, _, _, _, _, _, _, _, _, _, _, _, rfl, k0, k1, k2, k3, k4, k5, k6, k7, k8, k9, k10, k11, (Lib.hid fun _ => rfl), k13, k14, k15, k16, k17, k18, k19, k20, k21, k22, k23, k24, q25, HW.out⟩
              · -- operation 13
                obtain rfl := k11.out (hd 11 (by decide))
                obtain rfl := k12.out (hd 12 (by decide))
                have HW := Lib.hid hW
                clear hW hL hd hi1 hi2
                refine wpOp_step rfl fun K hK => ?_
                go_simp
                refine hK _ _ ⟨_, _, _, _, _, _, _, _, _, _, _, _, _, _, _, _, _, _, _, _, _, _, _, _, _, rfl, k0, k1, k2, k3, k4, k5, k6, k7, k8, k9, k10, k11, k12, (Lib.hid fun _ => rfl), k14, k15, k16, k17, k18, k19, k20, k21, k22, k23, k24, q25, HW.out⟩
              · -- operation 14
                obtain rfl := k13.out (hd 13 (by decide))
                have c0 := (HF.out.2.2.1.by hW).2
                have HW := Lib.hid hW
                clear hW hL hd hi1 hi2
                refine wpOp_step rfl fun K hK => ?_
                go_simp
                refine hK _ _ ⟨_, _, _, _, _, _, _, _, _, _, _, _, _, _, _, _, _, _, _, _, _, _, _, _, _, rfl, k0, k1, k2, k3, k4, k5, k6, k7, k8, k9, k10, k11, k12, k13, (Lib.hid fun _ => rfl), k15, k16, k17, k18, k19, k20, k21, k22, k23, k24, q25, HW.out⟩
              · -- operation 15
                have HW := Lib.hid hW
                clear hW hL hd hi1 hi2
                refine wpOp_step rfl fun K hK => ?_
                go_simp
                refine hK _ _ ⟨_, _, _, _, _, _, _, _, _, _, _, _, _, _, _, _, _, _, _, _, _, _, _, _, _, rfl, k0, k1, k2, k3, k4, k5, k6, k7, k8, k9, k10, k11, k12, k13, k14, (Lib.hid fun _ => rfl), k16, k17, k18, k19, k20, k21, k22, k23, k24, q25, HW.out⟩
              · -- operation 16
                have HW := Lib.hid hW
                clear hW hL hd hi1 hi2
                refine wpOp_step rfl fun K hK => ?_
                go_simp
                refine hK _ _ ⟨_, _, _, _, _, _, _, _, _, _, _, _, _, _, _, _, _, _, _, _, _, _, _, _, _, rfl, k0, k1, k2, k3, k4, k5, k6, k7, k8, k9, k10, k11, k12, k13, k14, k15, (Lib.hid fun _ => rfl), k17, k18, k19, k20, k21, k22, k23, k24, q25, HW.out⟩
              · -- operation 17
                obtain rfl := k15.out (hd 15 (by decide))
                obtain rfl := k16.out (hd 16 (by decide))
                have HW := Lib.hid hW
                clear hW hL hd hi1 hi2
                refine wpOp_step rfl fun K hK => ?_
                go_simp
                refine hK _ _ ⟨_, _, _, _, _, _, _, _, _, _, _, _, _, _, _, _, _, _, _, _, _, _, _, _, _, rfl, k0, k1, k2, k3, k4, k5, k6, k7, k8, k9, k10, k11, k12, k13, k14, k15, k16, (Lib.hid fun _ => rfl), k18, k19, k20, k21, k22, k23, k24, q25, HW.out⟩
              · -- operation 18
                obtain rfl := k17.out (hd 17 (by decide))
                have c0 := (HF.out.2.2.2.2.by hW).2
                have HW := Lib.hid hW
                clear hW hL hd hi1 hi2
                refine wpOp_step rfl fun K hK => ?_
                go_simp
                refine hK _ _ ⟨_, _, _, _, _, _, _, _, _, _, _, _, _, _, _, _, _, _, _, _, _, _, _, _, _, rfl, k0, k1, k2, k3, k4, k5, k6, k7, k8, k9, k10, k11, k12, k13, k14, k15, k16, k17, (Lib.hid fun _ => rfl), k19, k20, k21, k22, k23, k24, q25, HW.out⟩
              · -- operation 19
                obtain rfl := k5.out (hd 5 (by decide))
                obtain rfl := k10.out (hd 10 (by decide))
                obtain rfl := k14.out (hd 14 (by decide))
                obtain rfl := k18.out (hd 18 (by decide))
                have HW := Lib.hid hW
                clear hW hL hd hi1 hi2
                refine wpOp_step rfl fun K hK => ?_
                go_simp
                refine hK _ _ ⟨_, _, _, _, _, _, _, _, _, _, _, _, _, _, _, _, _, _, _, _, _, _, _, _, _, rfl, k0, k1, k2, k3, k4, k5, k6, k7, k8, k9, k10, k11, k12, k13, k14, k15, k16, k17, k18, (Lib.hid fun _ => rfl), k20, k21, k22, k23, k24, q25, HW.out⟩
              · -- operation 20
                obtain rfl := k0.out (hd 0 (by decide))
                obtain rfl := k19.out (hd 19 (by decide))
                have HW := Lib.hid hW
                clear hW hL hd hi1 hi2
                refine wpOp_step rfl fun K hK => ?_
                go_simp
                go_at_call 34
                refine (HBO.out _).mono ?_
                rintro _ w' ⟨rfl, hb⟩
                refine hK _ _ ⟨_, _, _, _, _, _, _, _, _, _, _, _, _, _, _, _, _, _, _, _, _, _, _, _, _, rfl, k0, k1, k2, k3, k4, k5, k6, k7, k8, k9, k10, k11, k12, k13, k14, k15, k16, k17, k18, k19, (Lib.hid fun _ => rfl), k21, k22, k23, (Lib.hid fun hl => ?_), q25, HW.out.trans (hb.mono HW.out.size)⟩
                · obtain ⟨gg, eg, lg, hg⟩ := k24.out hl
                  exact ⟨gg, eg, lg, hg.by hb⟩
              · -- operation 21
                obtain rfl := k20.out (hd 20 (by decide))
                have HW := Lib.hid hW
                clear hW hL hd hi1 hi2
                refine wpOp_step rfl fun K hK => ?_
                go_simp
                refine hK _ _ ⟨_, _, _, _, _, _, _, _, _, _, _, _, _, _, _, _, _, _, _, _, _, _, _, _, _, rfl, k0, k1, k2, k3, k4, k5, k6, k7, k8, k9, k10, k11, k12, k13, k14, k15, k16, k17, k18, k19, k20, (Lib.hid fun _ => rfl), k22, k23, k24, q25, HW.out⟩
              · -- operation 22
                obtain rfl := k21.out (hd 21 (by decide))
                have HW := Lib.hid hW
                clear hW hL hd hi1 hi2
                refine wpOp_step rfl fun K hK => ?_
                go_simp
                refine hK _ _ ⟨_, _, _, _, _, _, _, _, _, _, _, _, _, _, _, _, _, _, _, _, _, _, _, _, _, rfl, k0, k1, k2, k3, k4, k5, k6, k7, k8, k9, k10, k11, k12, k13, k14, k15, k16, k17, k18, k19, k20, k21, (Lib.hid fun _ => rfl), k23, k24, q25, HW.out⟩
              · -- operation 23
                obtain rfl := k21.out (hd 21 (by decide))
                have HW := Lib.hid hW
                clear hW hL hd hi1 hi2
                refine wpOp_step rfl fun K hK => ?_
                go_simp
                refine hK _ _ ⟨_, _, _, _, _, _, _, _, _, _, _, _, _, _, _, _, _, _, _, _, _, _, _, _, _, rfl, k0, k1, k2, k3, k4, k5, k6, k7, k8, k9, k10, k11, k12, k13, k14, k15, k16, k17, k18, k19, k20, k21, k22, (Lib.hid fun _ => rfl), k24, q25, HW.out⟩
              · -- operation 24
                have hLs : L 25 = false := by
                  cases hc : L 25 with
                  | false => rfl
                  | true => exact absurd (q25.out hc) (by rw [hL]; decide)
                have HW := Lib.hid hW
                clear hW hL hd hi1 hi2
                refine wpOp_step rfl fun K hK => ?_
                go_simp
                refine hK _ _ ⟨_, _, _, _, _, _, _, _, _, _, _, _, _, _, _, _, _, _, _, _, _, _, _, _, _, rfl, k0, k1, k2, k3, k4, k5, k6, k7, k8, k9, k10, k11, k12, k13, k14, k15, k16, k17, k18, k19, k20, k21, k22, k23, (Lib.hid fun _ => ⟨_, rfl, HW.out.size, At.bif_false hLs (At.new _ _ _)⟩), (Lib.hid fun _ => rfl), HW.out.trans (((Below.refl _ _).alloc (Nat.le_refl _) _).mono HW.out.size)⟩
              · -- operation 25
                obtain rfl := k22.out (hd 22 (by decide))
                obtain ⟨gg, rfl, lg, hg⟩ := k24.out (hd 24 (by decide))
                have hda := hd 24 (by decide)
                rw [hL] at hg
                dsimp only [cond_false] at hg
                obtain ⟨⟨c0, c1, c2, c3⟩, z0, z1, z2, z3⟩ := hg.four
                have HG := Lib.hid hg
                clear hg
                have HW := Lib.hid hW
                clear hW hL hd hi1 hi2
                refine wpOp_step rfl fun K hK => ?_
                go_simp
                refine hK _ _ ⟨_, _, _, _, _, _, _, _, _, _, _, _, _, _, _, _, _, _, _, _, _, _, _, _, _, rfl, k0, k1, k2, k3, k4, k5, k6, k7, k8, k9, k10, k11, k12, k13, k14, k15, k16, k17, k18, k19, k20, k21, k22, k23, (Lib.hid fun _ => ⟨gg, rfl, lg, HG.out.set4 _ _ _ _⟩), (Lib.hid fun _ => hda), below_set4 HW.out lg _ _ _ _⟩
            clear hW
            clear u
            intro L a' u hI hall
            obtain ⟨v18, v52, v53, v54, v55, v56, v57, v58, v59, v60, v61, v62, v63, v64, v65, v66, v67, v68, v69, v70, v71, v72, v73, v74, v75, rfl, k0, k1, k2, k3, k4, k5, k6, k7, k8, k9, k10, k11, k12, k13, k14, k15, k16, k17, k18, k19, k20, k21, k22, k23, k24, q25, hW⟩ := hI
            obtain ⟨g18, e18, l18, h18⟩ := k24.out (hall 24 (by decide))
            obtain rfl := k0.out (hall 0 (by decide))
            obtain rfl := k1.out (hall 1 (by decide))
            obtain rfl := k2.out (hall 2 (by decide))
            obtain rfl := k3.out (hall 3 (by decide))
            obtain rfl := k4.out (hall 4 (by decide))
            obtain rfl := k5.out (hall 5 (by decide))
            obtain rfl := k6.out (hall 6 (by decide))
            obtain rfl := k7.out (hall 7 (by decide))
            obtain rfl := k8.out (hall 8 (by decide))
            obtain rfl := k9.out (hall 9 (by decide))
            obtain rfl := k10.out (hall 10 (by decide))
            obtain rfl := k11.out (hall 11 (by decide))
            obtain rfl := k12.out (hall 12 (by decide))
            obtain rfl := k13.out (hall 13 (by decide))
            obtain rfl := k14.out (hall 14 (by decide))
            obtain rfl := k15.out (hall 15 (by decide))
            obtain rfl := k16.out (hall 16 (by decide))
            obtain rfl := k17.out (hall 17 (by decide))
            obtain rfl := k18.out (hall 18 (by decide))
            obtain rfl := k19.out (hall 19 (by decide))
            obtain rfl := k20.out (hall 20 (by decide))
            obtain rfl := k21.out (hall 21 (by decide))
            obtain rfl := k22.out (hall 22 (by decide))
            obtain rfl := k23.out (hall 23 (by decide))
            subst e18
            rw [show L 25 = true from (hall 25 (by decide))] at h18
            dsimp only [cond_true] at h18
            clear k0 k1 k2 k3 k4 k5 k6 k7 k8 k9 k10 k11 k12 k13 k14 k15 k16 k17 k18 k19 k20 k21 k22 k23 k24 q25 hall L
            -- operation 26 alone
            refine from_one' hTab 26 (by kernel_rfl) ?_
            have HW := Lib.hid hW
            have Hh18 := Lib.hid h18
            clear hW h18
            refine wpOp_step rfl fun K hK => ?_
            go_simp
            refine hK _ _ ?_
            clear hK K
            have hW := HW.out
            have h18 := Hh18.out
            clear HW Hh18
            refine from_end' hTab 27 (by kernel_rfl) ?_
            clear hTab
            clear x1 x2 x3 x4 x5 y1 y2 y3 y4 y5
            have HW := Lib.hid (And.intro hW h18)
            clear hW h18
            obtain ⟨⟨e0, e1, e2, e3⟩, -⟩ := HW.out.2.four
            obtain ⟨hiyw, hccw⟩ := HWR.out
            go_wp2_with fail
            refine (HH.out _).mono ?_
            rintro _ w7 ⟨rfl, hb7⟩
            have HB7 := Lib.hid (HBEL.out.trans ((HW.out.1.trans (hb7.mono HW.out.1.size)).mono HBEL.out.size))
            clear hb7 e0 e1 e2 e3
            cases ib with
            | true =>
              go_wp2
              go_roundw
              case rel =>
                refine ⟨iy + 1, by omega, by omega, ?_, by go_num, HB7.out⟩
                rw [Nat.add_sub_cancel, HST.out.2.2.2, ← HST.out.1]
                rfl
              case measure => simp [intOf]; omega
            | false =>
              go_wp2
              go_roundw
              case rel =>
                refine ⟨iy + 1, by omega, by omega, ?_, by go_num, HB7.out⟩
                rw [Nat.add_sub_cancel, HST.out.2.2.2, ← HST.out.1]
                simp [ind]
              case measure => simp [intOf]; omega
          · obtain rfl : iy = N2 := by omega
            have hlast : l2.getD (iy - 1) 0 = d := by have := HC.out.2.1.2.2.2; rw [HC.out.2.2] at this; exact this
            rw [hlast, g_end t x p q y d HPQ.out.2.2 fun h => (HTR.out h).2.2]
            have HB8 := Lib.hid hbel
            clear hlast hbel
            go_wp2
            go_roundw
            case rel =>
              refine ⟨ix + 1, by omega, by omega, ?_, by go_num, HB8.out⟩
              rw [Nat.add_sub_cancel, HPQ.out.2.1]
            case measure => simp [intOf]; omega
      · obtain rfl : ix = N1 := by omega
        have hlast : l1.getD (ix - 1) 0 = c := by have := HC.out.1.1.2.2.2; rw [HC.out.1.2] at this; exact this
        rw [hlast, g_last t x c fun h => (HTR.out h).1.2]
        have HB8 := Lib.hid (And.intro (HM.out.2.2.1.by hbel) (HM.out.2.2.2.trans (hbel.mono HM.out.2.2.2.size)))
        clear hlast hbel
        obtain ⟨⟨d0, d1, d2, d3⟩, -⟩ := HB8.out.1.four
        cases t with
        | true =>
          rw [show ind true = 1 from rfl]
          go_wp2_with fail
          clear d0 d1 d2 d3
          refine (numbers_any _ _ _ _ _).mono ?_
          rintro _ w9 ⟨g9, rfl, hg9, hb9⟩
          have hH := Has_any g9 a b c d x y w9 hg9
          rw [HT.out] at hH
          have HH := Lib.hid hH
          have HB9 := Lib.hid (HB8.out.2.trans (hb9.mono HB8.out.2.size))
          clear hH hg9 hb9
          go_wp2_with fail
          refine HH.out.mono ?_
          rintro _ w10 ⟨rfl, rfl⟩
          go_wp2
          go_ret
          exact ⟨rfl, HB9.out⟩
        | false =>
          rw [show ind false = 0 from rfl]
          go_wp2_with fail
          clear d0 d1 d2 d3
          refine (numbers_any _ _ _ _ _).mono ?_
          rintro _ w9 ⟨g9, rfl, hg9, hb9⟩
          have hH := Has_any g9 a b c d x y w9 hg9
          rw [HT.out] at hH
          have HH := Lib.hid hH
          have HB9 := Lib.hid (HB8.out.2.trans (hb9.mono HB8.out.2.size))
          clear hH hg9 hb9
          go_wp2_with fail
          refine HH.out.mono ?_
          rintro _ w10 ⟨rfl, rfl⟩
          go_wp2
          go_ret
          exact ⟨rfl, HB9.out⟩
end Go.Proofs.Ytenhhkeajhkfoaa
