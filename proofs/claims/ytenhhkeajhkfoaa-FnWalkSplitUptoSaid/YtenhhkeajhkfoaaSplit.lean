/- The walk of FnWalkSplit. Conditions: at most 1048576 kinds. -/
import Derived.Test.YtenhhkeajhkfoaaScript
import Derived.Test.YtenhhkeajhkfoaaTail
import Derived.Test.YtenhhkeajhkfoaaPlainSplit
import Derived.Outline
namespace Go.Proofs.Ytenhhkeajhkfoaa
open Go.RowKit

set_option maxHeartbeats 8000000 in
theorem split_walk (A A0 A1 A2 A3 A4 : Option Addr) (n c n0 c0 n1 c1 n2 c2 n3 c3 n4 c4 : Nat) (z z0 z1 z2 z3 : List Int) (z4 : List (List Int)) (x6 : Int) (w : World)
    (h : Ints w A n z) (h0 : Ints w A0 n0 z0) (h1 : Ints w A1 n1 z1) (h2 : Ints w A2 n2 z2) (h3 : Ints w A3 n3 z3) (h4 : RowsAt w A4 n4 z4) (hn : n0 ≤ 1048576) :
    Calls Try.prog 7 #[.slice A n c, .slice A0 n0 c0, .slice A1 n1 c1, .slice A2 n2 c2, .slice A3 n3 c3, .slice A4 n4 c4, .int .i64 x6] w fun e w' => e = .returned (.bool true) ∧ Below w.heap.size w w' := by
  have L := fun u hu => lrect_any A n c z u hu
  generalize rectOf z = sr at L
  obtain ⟨a, b, x, d⟩ := sr
  have HL := Lib.hid L
  have HS := Lib.hid (fun u b0 b1 b2 b3 b4 => script_any A0 A1 A2 A3 A4 n0 c0 n1 c1 n2 c2 n3 c3 n4 c4 z0 z1 z2 z3 z4 u b0 b1 b2 b3 b4 hn)
  obtain ⟨l, hl⟩ : ∃ l, scriptS z0 z1 z2 z3 z4 n0 = l := ⟨_, rfl⟩
  have hm : l.length ≤ 1048576 := by rw [← hl, scriptS_length]; exact hn
  rw [hl] at HS
  clear hl
  have H := Lib.hid h
  have HH := Lib.hid (And.intro h0 (And.intro h1 (And.intro h2 (And.intro h3 h4))))
  clear L h h0 h1 h2 h3 h4
  go_enter Try.func7, Try.ntmps7
  go_wp2_with fail
  refine (HL.out _ H.out).mono ?_
  rintro _ w1 ⟨rfl, hb1⟩
  have HB1 := Lib.hid hb1
  clear hb1
  go_wp2_with fail
  refine (HS.out _ (HH.out.1.below (Nat.le_refl _) HB1.out) (HH.out.2.1.below (Nat.le_refl _) HB1.out) (HH.out.2.2.1.below (Nat.le_refl _) HB1.out) (HH.out.2.2.2.1.below (Nat.le_refl _) HB1.out) (HH.out.2.2.2.2.by HB1.out)).mono ?_
  rintro _ w2 ⟨v2, rfl, ho2, hb2⟩
  obtain ⟨A16, c16, rfl, hS, hcap⟩ := ho2.form2
  have HB2 := Lib.hid (HB1.out.trans (hb2.mono HB1.out.size))
  have HS2 := Lib.hid hS
  clear hb2 ho2 hS HB1 HL H HS HH
  by_cases hneg : x6 < 0
  · go_wp2
    go_ret
    exact ⟨rfl, HB2.out.alloc HB2.out.size _⟩
  by_cases hbig : (l.length : Int) < x6
  · go_wp2
    go_ret
    exact ⟨rfl, HB2.out.alloc HB2.out.size _⟩
  obtain ⟨k, rfl⟩ : ∃ k : Nat, x6 = ↑k := ⟨x6.toNat, by omega⟩
  have hk : k ≤ l.length := by omega
  have q0 : decide ((k : Int) < 0) = false := by simp
  have q1 : decide (l.length < k) = false := by simp; omega
  have hkc : k ≤ c16 := by omega
  have W1' := fun u hu => walk_any a b x d A16 c16 l u hu (by omega)
  have W2' := fun u hu => walk_any a b x d A16 c16 (l.take k) u hu (by rw [List.length_take]; omega)
  rw [List.length_take, Nat.min_eq_left hk] at W2'
  have HW1 := Lib.hid W1'
  have HW2 := Lib.hid W2'
  clear W1' W2'
  go_wp2_with fail
  refine wp_region_tail [[], [], [0, 1], [], [], [], [4, 5], [0, 1, 2, 3, 4, 5, 6], [0, 1, 2, 3, 4, 5, 6, 7], [0, 1, 2, 3, 4, 5, 6, 7, 8]] (by kernel_rfl) (by kernel_rfl) 8 rfl (by decide) (by decide) (by kernel_rfl)
    (fun L a' u => ∃ v39 v40 v41 v42 v43 v44 v45 v46 : Value, a' = ⟨#[Value.slice A n c, Value.slice A0 n0 c0, Value.slice A1 n1 c1, Value.slice A2 n2 c2, Value.slice A3 n3 c3, Value.slice A4 n4 c4, .int .i64 ↑k, undef, undef, undef, undef, undef, undef, undef, .bool false, .pointer (some ⟨w2.heap.size, 0, none⟩), Value.slice A16 l.length c16, undef, undef, undef, undef, undef, undef, Value.slice A n c, .agg #[.int .i64 a, .int .i64 b, .int .i64 x, .int .i64 d], Value.slice A0 n0 c0, Value.slice A1 n1 c1, Value.slice A2 n2 c2, Value.slice A3 n3 c3, Value.slice A4 n4 c4, Value.slice A16 l.length c16, .int .i64 ↑k, .bool false, .bool false, .int .i64 ↑k, Value.slice A16 l.length c16, .int .i64 ↑l.length, .bool false, .bool false, v39, v40, v41, v42, v43, v44, v45, v46, undef, undef, undef, undef, undef, undef, undef, undef, undef, undef, undef, undef, undef, undef, undef, undef, undef, undef, undef, undef, undef, undef, undef, undef, undef, undef, undef, undef, undef, undef, undef, undef, undef, undef, undef, undef, undef, undef, undef, undef, undef, undef, undef, undef, undef, undef, undef], []⟩ ∧
      Hid (L 0 = true → v39 = .agg #[.int .i64 (a), .int .i64 (b), .int .i64 (x), .int .i64 (d)]) ∧ Hid (L 1 = true → v40 = Value.slice A16 l.length c16) ∧ Hid (L 2 = true → Own u w2.heap.size v41 (runsS ⟨a, b, x, d⟩ l l.length)) ∧ Hid (L 3 = true → v42 = .agg #[.int .i64 (a), .int .i64 (b), .int .i64 (x), .int .i64 (d)]) ∧ Hid (L 4 = true → v43 = Value.slice A16 l.length c16) ∧ Hid (L 5 = true → v44 = .int .i64 ↑k) ∧ Hid (L 6 = true → v45 = .slice A16 k c16) ∧ Hid (L 7 = true → Own u w2.heap.size v46 (runsS ⟨a, b, x, d⟩ (l.take k) k)) ∧ Hid (L 2 = true → L 7 = true → Apart v41 v46) ∧ (Ats [(w2.heap.size, 25, [.int .i64 a, .int .i64 b, .int .i64 x, .int .i64 d])] w2 u)) ?_ ?_ ?_
  · refine ⟨_, _, _, _, _, _, _, _, rfl, (Lib.hid fun h => by cases h), (Lib.hid fun h => by cases h), (Lib.hid fun h => by cases h), (Lib.hid fun h => by cases h), (Lib.hid fun h => by cases h), (Lib.hid fun h => by cases h), (Lib.hid fun h => by cases h), (Lib.hid fun h => by cases h), (Lib.hid fun h => by cases h), ?_⟩
    refine Ats.cons ?_ (Ats.nil ?_)
    · (repeat first | exact At.new' _ _ _ (by first | rfl | (simp only [size_alloc])) | refine At.drew ?_ | refine At.alloc ?_ _)
    · (repeat first | exact Below.refl _ _ | refine Below.drew ?_ | refine Below.alloc ?_ (by first | exact Nat.le_refl _ | (simp only [size_alloc]; omega)) _)
  · intro L a' u i hi hI hL hd
    obtain ⟨v39, v40, v41, v42, v43, v44, v45, v46, rfl, k0, k1, k2, k3, k4, k5, k6, k7, a2_7, hW⟩ := hI
    obtain rfl | rfl | rfl | rfl | rfl | rfl | rfl | rfl : i = 0 ∨ i = 1 ∨ i = 2 ∨ i = 3 ∨ i = 4 ∨ i = 5 ∨ i = 6 ∨ i = 7 := by omega
    · -- operation 0
      obtain ⟨c0, c1, c2, c3⟩ := (hW.nth 0 rfl).four.1
      have HW := Lib.hid hW
      clear hW hL hd
      refine wpOp_step rfl fun K hK => ?_
      go_simp
      refine hK _ _ ⟨_, _, _, _, _, _, _, _, rfl, (Lib.hid fun _ => rfl), k1, k2, k3, k4, k5, k6, k7, a2_7, HW.out⟩
    · -- operation 1
      have HW := Lib.hid hW
      clear hW hL hd
      refine wpOp_step rfl fun K hK => ?_
      go_simp
      refine hK _ _ ⟨_, _, _, _, _, _, _, _, rfl, k0, (Lib.hid fun _ => rfl), k2, k3, k4, k5, k6, k7, a2_7, HW.out⟩
    · -- operation 2
      obtain rfl := k0.out (hd 0 (by decide))
      obtain rfl := k1.out (hd 1 (by decide))
      have HW := Lib.hid hW
      clear hW hL hd
      refine wpOp_step rfl fun K hK => ?_
      go_simp
      go_at_call 15
      refine (HW1.out _ (HS2.out.by HW.out.2)).mono ?_
      rintro _ w' ⟨v, rfl, ho, hb⟩
      refine hK _ _ ⟨_, _, _, _, _, _, _, _, rfl, k0, k1, (Lib.hid fun _ => ho.mono HW.out.2.size), k3, k4, k5, k6, (Lib.hid fun hl => (k7.out hl).by hb), (Lib.hid fun _ hl => apart_l ho (k7.out hl)), HW.out.by hb⟩
    · -- operation 3
      obtain ⟨c0, c1, c2, c3⟩ := (hW.nth 0 rfl).four.1
      have HW := Lib.hid hW
      clear hW hL hd
      refine wpOp_step rfl fun K hK => ?_
      go_simp
      refine hK _ _ ⟨_, _, _, _, _, _, _, _, rfl, k0, k1, k2, (Lib.hid fun _ => rfl), k4, k5, k6, k7, a2_7, HW.out⟩
    · -- operation 4
      have HW := Lib.hid hW
      clear hW hL hd
      refine wpOp_step rfl fun K hK => ?_
      go_simp
      refine hK _ _ ⟨_, _, _, _, _, _, _, _, rfl, k0, k1, k2, k3, (Lib.hid fun _ => rfl), k5, k6, k7, a2_7, HW.out⟩
    · -- operation 5
      have HW := Lib.hid hW
      clear hW hL hd
      refine wpOp_step rfl fun K hK => ?_
      go_simp
      refine hK _ _ ⟨_, _, _, _, _, _, _, _, rfl, k0, k1, k2, k3, k4, (Lib.hid fun _ => rfl), k6, k7, a2_7, HW.out⟩
    · -- operation 6
      obtain rfl := k4.out (hd 4 (by decide))
      obtain rfl := k5.out (hd 5 (by decide))
      have HW := Lib.hid hW
      clear hW hL hd
      refine wpOp_step rfl fun K hK => ?_
      go_simp
      refine hK _ _ ⟨_, _, _, _, _, _, _, _, rfl, k0, k1, k2, k3, k4, k5, (Lib.hid fun _ => rfl), k7, a2_7, HW.out⟩
    · -- operation 7
      obtain rfl := k3.out (hd 3 (by decide))
      obtain rfl := k6.out (hd 6 (by decide))
      have HW := Lib.hid hW
      clear hW hL hd
      refine wpOp_step rfl fun K hK => ?_
      go_simp
      go_at_call 15
      refine (HW2.out _ ((HS2.out.take k).by HW.out.2)).mono ?_
      rintro _ w' ⟨v, rfl, ho, hb⟩
      refine hK _ _ ⟨_, _, _, _, _, _, _, _, rfl, k0, k1, (Lib.hid fun hl => (k2.out hl).by hb), k3, k4, k5, k6, (Lib.hid fun _ => ho.mono HW.out.2.size), (Lib.hid fun hl _ => apart_r ho (k2.out hl)), HW.out.by hb⟩
  intro L a' u hI hall
  obtain ⟨v39, v40, v41, v42, v43, v44, v45, v46, rfl, k0, k1, k2, k3, k4, k5, k6, k7, a2_7, hW⟩ := hI
  replace a2_7 := a2_7.out (hall 2 (by decide)) (hall 7 (by decide))
  obtain rfl := k0.out (hall 0 (by decide))
  obtain rfl := k1.out (hall 1 (by decide))
  have x2 := k2.out (hall 2 (by decide))
  obtain rfl := k3.out (hall 3 (by decide))
  obtain rfl := k4.out (hall 4 (by decide))
  obtain rfl := k5.out (hall 5 (by decide))
  obtain rfl := k6.out (hall 6 (by decide))
  have x7 := k7.out (hall 7 (by decide))
  clear k0 k1 k2 k3 k4 k5 k6 k7 hall
  show wpOps _ _ _ [8, 9] _ _
  dsimp only
  obtain ⟨A17, c17, rfl, hR17, -⟩ := x2.form'
  obtain ⟨A18, c18, rfl, hR18, hc18⟩ := x7.form'
  rw [runsS_length, runsS_length] at *
  have HO := Lib.hid (And.intro x2 (And.intro x7 (And.intro a2_7 hW)))
  have HR := Lib.hid (And.intro hR17 hR18)
  obtain ⟨w3, hw3⟩ : ∃ w3, w3 = u := ⟨_, rfl⟩
  rw [← hw3] at HO HR ⊢
  clear hw3 x2 x7 a2_7 hW hR17 hR18 HW1 HW2
  refine wpOps_tail 8 _ rfl rfl ?_
  simp only [List.drop_succ_cons, List.drop_zero]
  obtain ⟨⟨m0, m1, m2, m3⟩, hmid⟩ : ∃ m, runS ⟨a, b, x, d⟩ (l.take k) = m := ⟨_, rfl⟩
  have HM := Lib.hid hmid
  clear hmid
  obtain ⟨⟨y0, y1, y2, y3⟩, -⟩ := (HO.out.2.2.2.nth 0 rfl).four
  go_upto_if 60 with fail
  clear y0 y1 y2 y3
  go_cut [] (fun wx => At wx w3.heap.size 25 [.int .i64 m0, .int .i64 m1, .int .i64 m2, .int .i64 m3] ∧ Below w3.heap.size w3 wx)
  case first =>
    by_cases hk0 : 0 < k
    · obtain ⟨g18, o18, rfl, hg18⟩ := HR.out.2.addr (by rw [runsS_length]; exact hk0)
      have x1 : IntKind.i64.wrap ((k : Int) - 1) = (k : Int) - 1 := IntWalk.i64_in _ (by omega)
      have x2 : 0 ≤ (k : Int) - 1 := by omega
      have x3 : (k : Int) - 1 < k := by omega
      have x4 : ((k : Int) - 1).toNat = k - 1 := by omega
      have hget := (runsS_get ⟨a, b, x, d⟩ (l.take k) k (k - 1) (by omega))
      rw [show k - 1 + 1 = k by omega, List.take_take, Nat.min_self, HM.out] at hget
      obtain ⟨y0, y1, y2, y3⟩ := HR.out.2.cells (i := k - 1) (by rw [runsS_length]; omega) hget
      clear hget
      go_wp2
      go_meet
      exact ⟨At.new w3 25 [.int .i64 m0, .int .i64 m1, .int .i64 m2, .int .i64 m3], (Below.refl _ _).alloc (Nat.le_refl _) _⟩
    · obtain rfl : k = 0 := by omega
      have e : (⟨a, b, x, d⟩ : R) = ⟨m0, m1, m2, m3⟩ := HM.out
      simp only [R.mk.injEq] at e
      obtain ⟨rfl, rfl, rfl, rfl⟩ := e
      go_wp2
      go_meet
      exact ⟨At.new w3 25 [.int .i64 a, .int .i64 b, .int .i64 x, .int .i64 d], (Below.refl _ _).alloc (Nat.le_refl _) _⟩
  case rest =>
    have HC := Lib.hid hcut
    clear hcut
    have HB3 := Lib.hid HO.out.2.2.2.2
    have W3' := fun u hu => walk_any m0 m1 m2 m3 (behind A16 c16 k) (c16 - k) (l.drop k) u hu (by rw [List.length_drop]; omega)
    rw [List.length_drop] at W3'
    have HW3 := Lib.hid W3'
    clear W3'
    go_wp2_with fail
    refine wp_region_tail [[], [], [], [1, 2], [0, 1, 2, 3], [0, 1, 2, 3, 4]] (by kernel_rfl) (by kernel_rfl) 5 rfl (by decide) (by decide) (by kernel_rfl)
      (fun L a' u => ∃ v66 v67 v68 v69 v70 : Value, a' = ⟨#[Value.slice A n c, Value.slice A0 n0 c0, Value.slice A1 n1 c1, Value.slice A2 n2 c2, Value.slice A3 n3 c3, Value.slice A4 n4 c4, .int .i64 ↑k, undef, undef, undef, undef, undef, undef, undef, .bool false, .pointer (some ⟨w2.heap.size, 0, none⟩), Value.slice A16 l.length c16, Value.slice A17 l.length c17, Value.slice A18 k c18, .pointer (some ⟨w3.heap.size, 0, none⟩), undef, undef, undef, u23, u24, u25, u26, u27, u28, u29, u30, u31, u32, u33, u34, u35, u36, u37, u38, u39, u40, u41, u42, u43, u44, u45, u46, u47, u48, u49, u50, u51, u52, u53, u54, u55, u56, u57, u58, u59, u60, u61, u62, u63, u64, u65, v66, v67, v68, v69, v70, u71, u72, u73, u74, u75, u76, u77, u78, u79, undef, undef, undef, u83, u84, u85, u86, u87, u88, u89, u90, u91, u92, u93], []⟩ ∧
        Hid (L 0 = true → v66 = .agg #[.int .i64 (m0), .int .i64 (m1), .int .i64 (m2), .int .i64 (m3)]) ∧ Hid (L 1 = true → v67 = Value.slice A16 l.length c16) ∧ Hid (L 2 = true → v68 = .int .i64 ↑k) ∧ Hid (L 3 = true → v69 = .slice (behind A16 c16 k) (l.length - k) (c16 - k)) ∧ Hid (L 4 = true → Own u w3.heap.size v70 (runsS ⟨m0, m1, m2, m3⟩ (l.drop k) (l.length - k))) ∧ (At u w3.heap.size 25 [.int .i64 m0, .int .i64 m1, .int .i64 m2, .int .i64 m3] ∧ Below w3.heap.size w3 u)) ?_ ?_ ?_
    · refine ⟨_, _, _, _, _, rfl, (Lib.hid fun h => by cases h), (Lib.hid fun h => by cases h), (Lib.hid fun h => by cases h), (Lib.hid fun h => by cases h), (Lib.hid fun h => by cases h), ?_⟩
      exact ⟨HC.out.1.drew, HC.out.2.drew⟩
    · intro L a' u i hi hI hL hd
      obtain ⟨v66, v67, v68, v69, v70, rfl, k0, k1, k2, k3, k4, hW⟩ := hI
      obtain rfl | rfl | rfl | rfl | rfl : i = 0 ∨ i = 1 ∨ i = 2 ∨ i = 3 ∨ i = 4 := by omega
      · -- operation 0
        obtain ⟨c0, c1, c2, c3⟩ := hW.1.four.1
        have HW := Lib.hid hW
        clear hW hL hd
        refine wpOp_step rfl fun K hK => ?_
        go_simp
        refine hK _ _ ⟨_, _, _, _, _, rfl, (Lib.hid fun _ => rfl), k1, k2, k3, k4, HW.out⟩
      · -- operation 1
        have HW := Lib.hid hW
        clear hW hL hd
        refine wpOp_step rfl fun K hK => ?_
        go_simp
        refine hK _ _ ⟨_, _, _, _, _, rfl, k0, (Lib.hid fun _ => rfl), k2, k3, k4, HW.out⟩
      · -- operation 2
        have HW := Lib.hid hW
        clear hW hL hd
        refine wpOp_step rfl fun K hK => ?_
        go_simp
        refine hK _ _ ⟨_, _, _, _, _, rfl, k0, k1, (Lib.hid fun _ => rfl), k3, k4, HW.out⟩
      · -- operation 3
        obtain rfl := k1.out (hd 1 (by decide))
        obtain rfl := k2.out (hd 2 (by decide))
        have HW := Lib.hid hW
        clear hW hL hd
        refine wpOp_step rfl fun K hK => ?_
        go_simp
        refine hK _ _ ⟨_, _, _, _, _, rfl, k0, k1, k2, (Lib.hid fun _ => rfl), k4, HW.out⟩
      · -- operation 4
        obtain rfl := k0.out (hd 0 (by decide))
        obtain rfl := k3.out (hd 3 (by decide))
        have HW := Lib.hid hW
        clear hW hL hd
        refine wpOp_step rfl fun K hK => ?_
        go_simp
        go_at_call 15
        refine (HW3.out _ (((HS2.out.drop k c16 hcap).by HB3.out).by HW.out.2)).mono ?_
        rintro _ w' ⟨v, rfl, ho, hb⟩
        refine hK _ _ ⟨_, _, _, _, _, rfl, k0, k1, k2, k3, (Lib.hid fun _ => ho.mono HW.out.2.size), ⟨HW.out.1.by hb, HW.out.2.trans (hb.mono HW.out.2.size)⟩⟩
    intro L a' u hI hall
    obtain ⟨v66, v67, v68, v69, v70, rfl, k0, k1, k2, k3, k4, hW⟩ := hI
    obtain rfl := k0.out (hall 0 (by decide))
    obtain rfl := k1.out (hall 1 (by decide))
    obtain rfl := k2.out (hall 2 (by decide))
    obtain rfl := k3.out (hall 3 (by decide))
    have x4 := k4.out (hall 4 (by decide))
    clear k0 k1 k2 k3 k4 hall
    show wpOps _ _ _ [5] _ _
    dsimp only
    obtain ⟨A20, c20, rfl, hR20, hc20⟩ := x4.form'
    rw [runsS_length] at *
    obtain ⟨w4, hw4⟩ : ∃ w4, w4 = u := ⟨_, rfl⟩
    rw [← hw4] at x4 hR20 hW ⊢
    have hB4 := hW.2
    have HO1 := Lib.hid (HO.out.1.by hB4)
    have HO2 := Lib.hid (HO.out.2.1.by hB4)
    have HBB := Lib.hid (HB3.out.trans (hB4.mono HB3.out.size))
    have HR20 := Lib.hid hR20
    have x1 : IntKind.i64.wrap ((l.length : Int) - k) = (l.length : Int) - k := IntWalk.i64_in _ (by omega)
    have x2 : ((l.length - k : Nat) : Int) = (l.length : Int) - k := by omega
    clear hw4 x4 hR20 hW hB4 HC HW3
    refine wpOps_tail 5 _ rfl rfl ?_
    simp only [List.drop_succ_cons, List.drop_zero]
    go_wp2_with (at_builtin; refine append_rects rfl (.tmp 78) (.tmp 79) rfl w4 w2.heap.size _ _ (runsS ⟨m0, m1, m2, m3⟩ (l.drop k) (l.length - k)) A20 c20 rfl HO2.out (by rw [runsS_length]; rfl) HR20.out hc20 (by rw [runsS_length, runsS_length]; omega) HBB.out.size ?_; intro v' w5 hown5 hb5 _ hkeep5; obtain ⟨A80, c80, rfl, hR80⟩ := split_form hown5 HM.out hk)
    have HR17 := Lib.hid (rects_of (hkeep5 _ _ _ HBB.out.size HO.out.2.2.1 HO1.out))
    have HB5 := Lib.hid (HB2.out.trans ((HBB.out.trans hb5).mono HB2.out.size))
    have HR80 := Lib.hid hR80
    clear hown5 hb5 hkeep5 hR80 HO1 HO2 HR20 HBB HO HR
    go_wp2
    go_loopw [82] (fun i wr => ∃ j : Nat, j ≤ l.length ∧ i = .int .i64 j ∧ Below w5.heap.size w5 wr) (fun i _ => l.length - (intOf i).toNat)
    case atStart => exact ⟨0, Nat.zero_le _, rfl, Below.refl _ _⟩
    case round =>
      obtain ⟨j, hj, rfl, hbel⟩ := hrel
      have HB := Lib.hid hbel
      clear hbel
      by_cases hlt : j < l.length
      · obtain ⟨g17, o17, rfl, hg17⟩ := (HR17.out.by HB.out).addr (by rw [runsS_length]; omega)
        obtain ⟨g80, o80, rfl, hg80⟩ := (HR80.out.by HB.out).addr (by rw [runsS_length]; omega)
        have y := (HR17.out.by HB.out).cells (i := j) (by rw [runsS_length]; exact hlt) (q := _) rfl
        have z := (HR80.out.by HB.out).cells (i := j) (by rw [runsS_length]; exact hlt) (q := _) rfl
        generalize (runsS ⟨a, b, x, d⟩ l l.length)[j]'(by rw [runsS_length]; exact hlt) = v at y z
        obtain ⟨p, q, s, t⟩ := v
        obtain ⟨y0, y1, y2, y3⟩ := y
        obtain ⟨t0, t1, t2, t3⟩ := z
        go_wp2
        go_region
        go_wp2
        go_roundw
        case rel => exact ⟨j + 1, by omega, by go_num, (HB.out.alloc HB.out.size _).drew⟩
        case measure => simp [intOf]; omega
      · obtain rfl : j = l.length := by omega
        go_wp2
        go_ret
        exact ⟨rfl, HB5.out.trans (HB.out.mono HB5.out.size)⟩
end Go.Proofs.Ytenhhkeajhkfoaa
