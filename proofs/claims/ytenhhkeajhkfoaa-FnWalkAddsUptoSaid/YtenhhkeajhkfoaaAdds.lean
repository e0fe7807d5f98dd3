/- The walk of FnWalkAdds. Conditions: at most 1048576 numbers. -/
import Derived.Test.YtenhhkeajhkfoaaBoth
import Derived.Test.YtenhhkeajhkfoaaBools
import Derived.Test.YtenhhkeajhkfoaaPlainAdds
import Derived.Test.YtenhhkeajhkfoaaPlainSplit
import Derived.Test.YtenhhkeajhkfoaaAppendS
import Derived.Test.YtenhhkeajhkfoaaSpots
import Derived.Test.YtenhhkeajhkfoaaBlocks
import Derived.Test.YtenhhkeajhkfoaaTail
import Derived.Deep.DeepCutAuto
import Derived.Outline
namespace Go.Proofs.Ytenhhkeajhkfoaa
open Go.RowKit

/-- what the loop of FnWalkAdds keeps in memory -/
def AddMem (u : World) (base g9 : Nat) (v : Value) (l : List S) (a b x d px py : Int) : Prop :=
  OwnS u base v l ∧ At u g9 25 [.int .i64 a, .int .i64 b, .int .i64 x, .int .i64 d] ∧ At u (g9 + 1) 29 [.int .i64 px, .int .i64 py]
theorem AddMem.by {u u' : World} {base g9 : Nat} {v : Value} {l : List S} {a b x d px py : Int} (h : AddMem u base g9 v l a b x d px py) (hb : Below u.heap.size u u') : AddMem u' base g9 v l a b x d px py := ⟨h.1.by hb, h.2.1.by hb, h.2.2.by hb⟩

theorem i64_wrap (n : Int) : IntKind.i64.wrap n = wrap64 n := by rw [IntKind.wrap_i64, wrap64]
def tab_adds5 : List (List Nat) := [[], [], [0, 1], [0, 1, 2], [], [], [4, 5], [4, 5, 6], [0, 1, 2, 3, 4, 5, 6, 7], [0, 1, 2, 3, 4, 5, 6, 7, 8], [], [0, 1, 2, 3, 4, 5, 6, 7, 8, 9, 10]]
def tab_adds8 : List (List Nat) := [[], [0], [], [], [2, 3], [2, 3, 4], [0, 1, 2, 3, 4, 5], [], [7], [], [], [9, 10], [9, 10, 11], [7, 8, 9, 10, 11, 12], [0, 1, 2, 3, 4, 5, 6, 7, 8], [0, 1, 2, 3, 4, 5, 6, 7, 8, 14], [0, 1, 2, 3, 4, 5, 6, 7, 8, 9, 10, 11, 12, 13, 14, 15], [0, 1, 2, 3, 4, 5, 6, 7, 8, 9, 10, 11, 12, 13, 14, 15, 16]]
def tab_adds11 : List (List Nat) := [[], [], [0, 1], [], [], [4], [4, 5], [0, 1, 2, 3, 4, 5, 6], [0, 1, 2, 3, 4, 5, 6, 7], [0, 1, 2, 3, 4, 5, 6, 7, 8]]
def tab_adds15e : List (List Nat) := [[], [0], [0, 1], [], [0, 1, 2, 3], [0, 1, 2, 3, 4], [0, 1, 2, 3, 4, 5], [0, 1, 2, 3, 4, 5, 6], [0, 1, 2, 3, 4, 5, 6, 7], [0, 1, 2, 3, 4, 5, 6, 7, 8], [0, 1, 2, 3, 4, 5, 6, 7, 8, 9], [0, 1, 2, 3, 4, 5, 6, 7, 8, 9], [0, 1, 2, 3, 4, 5, 6, 7, 8, 9, 11], [0, 1, 2, 3, 4, 5, 6, 7, 8, 9, 11, 12], [0, 1, 2, 3, 4, 5, 6, 7, 8, 9, 10, 11, 12, 13], [0, 1, 2, 3, 4, 5, 6, 7, 8, 9, 10, 11, 12, 13, 14], [0, 1, 2, 3, 4, 5, 6, 7, 8, 9], [0, 1, 2, 3, 4, 5, 6, 7, 8, 9, 10, 11, 12, 13, 14, 15, 16], [0, 1, 2, 3, 4, 5, 6, 7, 8, 9, 10, 11, 12, 13, 14, 15, 16, 17], [0, 1, 2, 3, 4, 5, 6, 7, 8, 9, 10, 11, 12, 13, 14, 15, 16, 17, 18], [0, 1, 2, 3, 4, 5, 6, 7, 8, 9, 10, 11, 12, 13, 14, 15, 16, 17, 18, 19]]
set_option maxRecDepth 10000 in
set_option maxHeartbeats 8000000 in
theorem adds_walk (A A1 A2 A3 : Option Addr) (n c n1 c1 n2 c2 n3 c3 : Nat) (z z1 z2 : List Int) (bs : List Bool) (w : World)
    (h : Ints w A n z) (h1 : Ints w A1 n1 z1) (h2 : Ints w A2 n2 z2) (h3 : Bools w A3 n3 bs) (hn : n1 ≤ 1048576) :
    Calls Try.prog 3 #[.slice A n c, .slice A1 n1 c1, .slice A2 n2 c2, .slice A3 n3 c3] w fun e w' => e = .returned (.bool true) ∧ Below w.heap.size w w' := by
  have L := fun u hu => lrect_any A n c z u hu
  generalize rectOf z = sr at L
  obtain ⟨a, b, x, d⟩ := sr
  have HL := Lib.hid L
  have H := Lib.hid h
  have HH := Lib.hid (And.intro h1 (And.intro h2 h3))
  clear L h h1 h2 h3
  go_enter Try.func3, Try.ntmps3
  go_wp2_with fail
  refine (HL.out _ H.out).mono ?_
  rintro _ w1 ⟨rfl, hb1⟩
  have HB1 := Lib.hid hb1
  clear hb1 HL H
  obtain ⟨N, hN1, hN2, hmn⟩ : ∃ N : Nat, N ≤ n1 ∧ N ≤ n2 ∧ (if n2 < n1 then (n2 : Int) else (n1 : Int)) = (N : Int) := by
    by_cases h : n2 < n1
    · exact ⟨n2, by omega, by omega, if_pos h⟩
    · exact ⟨n1, by omega, by omega, if_neg h⟩
  go_wp2
  go_loopw [10, 12] (fun v i wr => ∃ k : Nat, k ≤ N ∧ i = .int .i64 k ∧ AddMem wr w1.heap.size (w1.heap.size + 1) v (addsS z1 z2 bs k) a b x d (sumX (addsS z1 z2 bs k)) (sumY (addsS z1 z2 bs k)) ∧ Below w.heap.size w wr) (fun _ i _ => N - (intOf i).toNat)
  case atStart =>
    refine ⟨0, Nat.zero_le _, rfl, ⟨((ownS_empty w1).alloc _).alloc _, ?_, ?_⟩, ?_⟩
    · (repeat first | exact At.new' _ _ _ (by first | rfl | (simp only [size_alloc])) | refine At.drew ?_ | refine At.alloc ?_ _)
    · (repeat first | exact At.new' _ _ _ (by first | rfl | (simp only [size_alloc])) | refine At.drew ?_ | refine At.alloc ?_ _)
    · exact ((HB1.out.alloc HB1.out.size _).alloc (by rw [size_alloc]; have := HB1.out.size; omega) _).alloc (by rw [size_alloc, size_alloc]; have := HB1.out.size; omega) _
  case round =>
    obtain ⟨k, hk, rfl, hmem, hbel⟩ := hrel
    have HM := Lib.hid hmem
    have HB := Lib.hid hbel
    clear hmem hbel
    by_cases hlt : k < N
    · have hlt1 : k < n1 := by omega
      have hlt2 : k < n2 := by omega
      obtain ⟨gx, ox, rfl, hgx, cx⟩ := HH.out.1.at_ hlt1
      obtain ⟨gy, oy, rfl, hgy, cy⟩ := HH.out.2.1.at_ hlt2
      have hh3 := HH.out.2.2
      obtain ⟨px, hpx⟩ : ∃ v, z1.getD k 0 = v := ⟨_, rfl⟩
      obtain ⟨py, hpy⟩ : ∃ v, z2.getD k 0 = v := ⟨_, rfl⟩
      obtain ⟨sub, hsub⟩ : ∃ v, bs.getD k false = v := ⟨_, rfl⟩
      have hsuc := addsS_succ z1 z2 bs k
      have hll : (addsS z1 z2 bs k).length ≤ 1048576 := by rw [addsS_length]; omega
      have hat : addAt z1 z2 bs k = ⟨bif sub then 1 else 0, px, py, 0, ⟨0, 0, 0, 0⟩⟩ := by unfold addAt; rw [hpx, hpy, hsub]
      rw [hat] at hsuc
      rw [hpx] at cx
      rw [hpy] at cy
      generalize addsS z1 z2 bs k = l at HM hsuc hll
      obtain ⟨sx, hsx⟩ : ∃ v, sumX l = v := ⟨_, rfl⟩
      obtain ⟨sy, hsy⟩ : ∃ v, sumY l = v := ⟨_, rfl⟩
      rw [hsx, hsy] at HM
      have HCX := Lib.hid (And.intro (One.mk hgx cx) (One.mk hgy cy))
      have HP := Lib.hid (And.intro hsuc (And.intro hsx (And.intro hsy (And.intro hll (And.intro hsub hh3)))))
      have HBW := HB
      have hsz := HB1.out.size
      have hszr := HM.out.2.2.lt
      clear hpx hpy hgx hgy cx cy hsuc hat hsx hsy hll hsub hh3
      go_wp2_with fail
      refine from_table tab_adds5 (by kernel_rfl) (by kernel_rfl) (by kernel_rfl) (by kernel_rfl) fun hTab => ?_
      refine from_gen (fun u => Below wr.heap.size wr u) ?_ ?_
      · exact (Below.refl _ _).drew
      intro u hW
      -- operations 0 to 10
      refine from_block' hTab 0 11 (by decide) (by kernel_rfl)
        (fun L a' u => ∃ v13 v30 v31 v32 v33 v34 v35 v36 v37 v38 v39 : Value, a' = ⟨#[Value.slice A n c, .slice (some ⟨gx, ox, none⟩) n1 c1, .slice (some ⟨gy, oy, none⟩) n2 c2, Value.slice A3 n3 c3, undef, undef, undef, undef, .bool false, .pointer (some ⟨w1.heap.size + 1, 0, none⟩), u10, .pointer (some ⟨w1.heap.size + 1 + 1, 0, none⟩), .int .i64 ↑k, v13, undef, undef, undef, Value.slice A n c, .agg #[.int .i64 a, .int .i64 b, .int .i64 x, .int .i64 d], .slice (some ⟨w1.heap.size, 0, none⟩) 0 0, .agg #[.int .i64 0, .int .i64 0], .int .i64 ↑k, .slice (some ⟨gx, ox, none⟩) n1 c1, .int .i64 ↑n1, .slice (some ⟨gy, oy, none⟩) n2 c2, .int .i64 ↑n2, .int .i64 ↑N, .bool true, u28, u29, v30, v31, v32, v33, v34, v35, v36, v37, v38, v39, u40, u41, u42, u43, u44, u45, u46, u47, u48, u49, u50, u51, u52, u53, u54, u55, u56, u57, u58, u59, u60, u61, u62, u63, u64, u65, u66, u67, u68, u69, u70, u71, u72, u73, u74, u75, u76, u77, u78, u79, u80, u81, u82, u83, u84, u85, u86, undef, undef, undef, undef, undef, undef, undef, undef, undef, undef, undef, undef, undef, undef, undef, undef, undef, undef, undef, undef, undef, undef, undef, undef, undef, undef, undef, undef, undef, undef, undef, undef, undef, undef, undef, undef, undef, undef, undef, undef, undef, undef, undef, undef, undef, undef, undef, undef, undef, undef, undef, undef, undef, undef, undef, undef, undef, undef, undef], []⟩ ∧
          Hid (L 0 = true → v30 = .slice (some ⟨gx, ox, none⟩) n1 c1) ∧ Hid (L 1 = true → v31 = .int .i64 ↑k) ∧ Hid (L 2 = true → v32 = .pointer (some ⟨gx, ox + k, none⟩)) ∧ Hid (L 3 = true → v33 = .int .i64 (px)) ∧ Hid (L 4 = true → v34 = .slice (some ⟨gy, oy, none⟩) n2 c2) ∧ Hid (L 5 = true → v35 = .int .i64 ↑k) ∧ Hid (L 6 = true → v36 = .pointer (some ⟨gy, oy + k, none⟩)) ∧ Hid (L 7 = true → v37 = .int .i64 (py)) ∧ Hid (L 8 = true → v38 = .agg #[.int .i64 (px), .int .i64 (py)]) ∧ Hid (L 9 = true → v39 = .agg #[.int .i64 0, .int .i64 (px), .int .i64 (py), .int .i64 0, .int .i64 0, .int .i64 0, .int .i64 0, .int .i64 0]) ∧ Hid (L 10 = true → ∃ g13, v13 = .pointer (some ⟨g13, 0, none⟩) ∧ wr.heap.size ≤ g13 ∧ At u g13 31 [.int .i64 0, .int .i64 0, .int .i64 0, .int .i64 0, .int .i64 0, .int .i64 0, .int .i64 0, .int .i64 0]) ∧ (Below wr.heap.size wr u)) ?_ ?_ ?_
      · exact ⟨_, _, _, _, _, _, _, _, _, _, _, rfl, (Lib.hid fun h => by cases h), (Lib.hid fun h => by cases h), (Lib.hid fun h => by cases h), (Lib.hid fun h => by cases h), (Lib.hid fun h => by cases h), (Lib.hid fun h => by cases h), (Lib.hid fun h => by cases h), (Lib.hid fun h => by cases h), (Lib.hid fun h => by cases h), (Lib.hid fun h => by cases h), (Lib.hid fun h => by cases h), hW⟩
      · clear hW
        intro L a' u i hi1 hi2 hI hL hd
        obtain ⟨v13, v30, v31, v32, v33, v34, v35, v36, v37, v38, v39, rfl, k0, k1, k2, k3, k4, k5, k6, k7, k8, k9, k10, hW⟩ := hI
        obtain rfl | rfl | rfl | rfl | rfl | rfl | rfl | rfl | rfl | rfl | rfl := (show ∀ i : Nat, 0 ≤ i → i < 11 → (i = 0 ∨ i = 1 ∨ i = 2 ∨ i = 3 ∨ i = 4 ∨ i = 5 ∨ i = 6 ∨ i = 7 ∨ i = 8 ∨ i = 9 ∨ i = 10) by omega) i hi1 hi2
        · -- operation 0
          have HW := Lib.hid hW
          clear hW hL hd hi1 hi2
          refine wpOp_step rfl fun K hK => ?_
          go_simp
          refine hK _ _ ⟨_, _, _, _, _, _, _, _, _, _, _, rfl, (Lib.hid fun _ => rfl), k1, k2, k3, k4, k5, k6, k7, k8, k9, k10, HW.out⟩
        · -- operation 1
          have HW := Lib.hid hW
          clear hW hL hd hi1 hi2
          refine wpOp_step rfl fun K hK => ?_
          go_simp
          refine hK _ _ ⟨_, _, _, _, _, _, _, _, _, _, _, rfl, k0, (Lib.hid fun _ => rfl), k2, k3, k4, k5, k6, k7, k8, k9, k10, HW.out⟩
        · -- operation 2
          obtain rfl := k0.out (hd 0 (by decide))
          obtain rfl := k1.out (hd 1 (by decide))
          have HW := Lib.hid hW
          clear hW hL hd hi1 hi2
          refine wpOp_step rfl fun K hK => ?_
          go_simp
          refine hK _ _ ⟨_, _, _, _, _, _, _, _, _, _, _, rfl, k0, k1, (Lib.hid fun _ => rfl), k3, k4, k5, k6, k7, k8, k9, k10, HW.out⟩
        · -- operation 3
          obtain rfl := k2.out (hd 2 (by decide))
          have c0 := (HCX.out.1.by (HBW.out.trans (hW.mono HBW.out.size))).2
          have HW := Lib.hid hW
          clear hW hL hd hi1 hi2
          refine wpOp_step rfl fun K hK => ?_
          go_simp
          refine hK _ _ ⟨_, _, _, _, _, _, _, _, _, _, _, rfl, k0, k1, k2, (Lib.hid fun _ => rfl), k4, k5, k6, k7, k8, k9, k10, HW.out⟩
        · -- operation 4
          have HW := Lib.hid hW
          clear hW hL hd hi1 hi2
          refine wpOp_step rfl fun K hK => ?_
          go_simp
          refine hK _ _ ⟨_, _, _, _, _, _, _, _, _, _, _, rfl, k0, k1, k2, k3, (Lib.hid fun _ => rfl), k5, k6, k7, k8, k9, k10, HW.out⟩
        · -- operation 5
          have HW := Lib.hid hW
          clear hW hL hd hi1 hi2
          refine wpOp_step rfl fun K hK => ?_
          go_simp
          refine hK _ _ ⟨_, _, _, _, _, _, _, _, _, _, _, rfl, k0, k1, k2, k3, k4, (Lib.hid fun _ => rfl), k6, k7, k8, k9, k10, HW.out⟩
        · -- operation 6
          obtain rfl := k4.out (hd 4 (by decide))
          obtain rfl := k5.out (hd 5 (by decide))
          have HW := Lib.hid hW
          clear hW hL hd hi1 hi2
          refine wpOp_step rfl fun K hK => ?_
          go_simp
          refine hK _ _ ⟨_, _, _, _, _, _, _, _, _, _, _, rfl, k0, k1, k2, k3, k4, k5, (Lib.hid fun _ => rfl), k7, k8, k9, k10, HW.out⟩
        · -- operation 7
          obtain rfl := k6.out (hd 6 (by decide))
          have c0 := (HCX.out.2.by (HBW.out.trans (hW.mono HBW.out.size))).2
          have HW := Lib.hid hW
          clear hW hL hd hi1 hi2
          refine wpOp_step rfl fun K hK => ?_
          go_simp
          refine hK _ _ ⟨_, _, _, _, _, _, _, _, _, _, _, rfl, k0, k1, k2, k3, k4, k5, k6, (Lib.hid fun _ => rfl), k8, k9, k10, HW.out⟩
        · -- operation 8
          obtain rfl := k3.out (hd 3 (by decide))
          obtain rfl := k7.out (hd 7 (by decide))
          have HW := Lib.hid hW
          clear hW hL hd hi1 hi2
          refine wpOp_step rfl fun K hK => ?_
          go_simp
          refine hK _ _ ⟨_, _, _, _, _, _, _, _, _, _, _, rfl, k0, k1, k2, k3, k4, k5, k6, k7, (Lib.hid fun _ => rfl), k9, k10, HW.out⟩
        · -- operation 9
          obtain rfl := k8.out (hd 8 (by decide))
          have HW := Lib.hid hW
          clear hW hL hd hi1 hi2
          refine wpOp_step rfl fun K hK => ?_
          go_simp
          refine hK _ _ ⟨_, _, _, _, _, _, _, _, _, _, _, rfl, k0, k1, k2, k3, k4, k5, k6, k7, k8, (Lib.hid fun _ => rfl), k10, HW.out⟩
        · -- operation 10
          have HW := Lib.hid hW
          clear hW hL hd hi1 hi2
          refine wpOp_step rfl fun K hK => ?_
          go_simp
          refine hK _ _ ⟨_, _, _, _, _, _, _, _, _, _, _, rfl, k0, k1, k2, k3, k4, k5, k6, k7, k8, k9, (Lib.hid fun _ => ⟨_, rfl, HW.out.size, At.new _ _ _⟩), HW.out.trans (((Below.refl _ _).alloc (Nat.le_refl _) _).mono HW.out.size)⟩
      clear hW
      clear u
      intro L a' u hI hall
      obtain ⟨v13, v30, v31, v32, v33, v34, v35, v36, v37, v38, v39, rfl, k0, k1, k2, k3, k4, k5, k6, k7, k8, k9, k10, hW⟩ := hI
      obtain ⟨g13, e13, l13, h13⟩ := k10.out (hall 10 (by decide))
      obtain rfl := k0.out (hall 0 (by decide))
      obtain rfl := k1.out (hall 1 (by decide))
      obtain rfl := k2.out (hall 2 (by decide))
      obtain rfl := k3.out (hall 3 (by decide))
      obtain rfl := k4.out (hall 4 (by decide))
      obtain rfl := k5.out (hall 5 (by decide))
      obtain rfl := k6.out (hall 6 (by decide))
      obtain rfl := k7.out (hall 7 (by decide))
      obtain rfl := k8.out (hall 8 (by decide))
      obtain rfl := k9.out (hall 9 (by decide))
      subst e13
      clear k0 k1 k2 k3 k4 k5 k6 k7 k8 k9 k10 hall L
      refine from_tail hTab 11 (by kernel_rfl) ?_
      show wpOps _ _ _ [11] _ _
      clear hTab
      dsimp only
      obtain ⟨⟨y0, y1, y2, y3, y4, y5, y6, y7⟩, f0, f1, f2, f3, f4, f5, f6, f7⟩ := h13.eight
      have H13 := Lib.hid (And.intro h13 hW)
      clear h13 hW
      refine wpOps_tail 11 _ rfl rfl ?_
      simp only [List.drop_succ_cons, List.drop_zero]
      go_upto_region 6 with fail
      clear y0 y1 y2 y3 y4 y5 y6 y7 f0 f1 f2 f3 f4 f5 f6 f7
      go_cut [49] (fun v wx => v = .bool sub ∧ At wx g13 31 [.int .i64 0, .int .i64 px, .int .i64 py, .int .i64 0, .int .i64 0, .int .i64 0, .int .i64 0, .int .i64 0] ∧ Below wr.heap.size wr wx)
      case first =>
        have h13' : At (((((((((u.setCell ⟨g13, 0, none⟩ (.int .i64 0)).setCell ⟨g13, 1, none⟩ (.int .i64 px)).setCell ⟨g13, 2, none⟩ (.int .i64 py)).setCell ⟨g13, 3, none⟩ (.int .i64 0)).setCell ⟨g13, 4, none⟩ (.int .i64 0)).setCell ⟨g13, 5, none⟩ (.int .i64 0)).setCell ⟨g13, 6, none⟩ (.int .i64 0)).setCell ⟨g13, 7, none⟩ (.int .i64 0))) g13 31 [.int .i64 0, .int .i64 px, .int .i64 py, .int .i64 0, .int .i64 0, .int .i64 0, .int .i64 0, .int .i64 0] :=
          (((((((H13.out.1.set_ 0 _).set_ 1 _).set_ 2 _).set_ 3 _).set_ 4 _).set_ 5 _).set_ 6 _).set_ 7 _
        have hb13 : Below wr.heap.size wr (((((((((u.setCell ⟨g13, 0, none⟩ (.int .i64 0)).setCell ⟨g13, 1, none⟩ (.int .i64 px)).setCell ⟨g13, 2, none⟩ (.int .i64 py)).setCell ⟨g13, 3, none⟩ (.int .i64 0)).setCell ⟨g13, 4, none⟩ (.int .i64 0)).setCell ⟨g13, 5, none⟩ (.int .i64 0)).setCell ⟨g13, 6, none⟩ (.int .i64 0)).setCell ⟨g13, 7, none⟩ (.int .i64 0))) :=
          (((((((H13.out.2.setCell l13 _).setCell l13 _).setCell l13 _).setCell l13 _).setCell l13 _).setCell l13 _).setCell l13 _).setCell l13 _
        revert h13' hb13
        generalize (((((((((u.setCell ⟨g13, 0, none⟩ (.int .i64 0)).setCell ⟨g13, 1, none⟩ (.int .i64 px)).setCell ⟨g13, 2, none⟩ (.int .i64 py)).setCell ⟨g13, 3, none⟩ (.int .i64 0)).setCell ⟨g13, 4, none⟩ (.int .i64 0)).setCell ⟨g13, 5, none⟩ (.int .i64 0)).setCell ⟨g13, 6, none⟩ (.int .i64 0)).setCell ⟨g13, 7, none⟩ (.int .i64 0))) = w4
        intro h13' hb13
        have HX := Lib.hid (And.intro h13' hb13)
        clear h13' hb13 H13
        by_cases hk3 : k < n3
        · obtain ⟨g3, o3, rfl, hg3, hc3⟩ := (HP.out.2.2.2.2.2.by (HBW.out.trans (HX.out.2.mono HBW.out.size))).at_ hk3
          rw [HP.out.2.2.2.2.1] at hc3
          go_wp2
          go_meet
          exact ⟨rfl, HX.out⟩
        · have e := HP.out.2.2.2.2.2.out hk3
          rw [HP.out.2.2.2.2.1] at e
          subst e
          go_wp2
          go_meet
          exact ⟨rfl, HX.out⟩
      case rest =>
        obtain ⟨rfl, hx13, hxb⟩ := hcut
        have HX := Lib.hid (And.intro hx13 hxb)
        clear hx13 hxb H13
        obtain ⟨op', hop'⟩ : ∃ o : Int, (bif sub then 1 else 0) = o := ⟨_, rfl⟩
        obtain ⟨nx, hnx⟩ : ∃ o : Int, moveX sx ⟨op', px, py, 0, ⟨0, 0, 0, 0⟩⟩ = o := ⟨_, rfl⟩
        obtain ⟨ny, hny⟩ : ∃ o : Int, moveY sy ⟨op', px, py, 0, ⟨0, 0, 0, 0⟩⟩ = o := ⟨_, rfl⟩
        have HN := Lib.hid (And.intro hop' (And.intro hnx hny))
        clear hop' hnx hny
        have hm := HM.out.by HX.out.2
        have HC := Lib.hid (And.intro (And.intro hm.1 hm.2.1) (And.intro hm.2.2 (HBW.out.trans (HX.out.2.mono HBW.out.size))))
        clear hm
        go_upto_if 49 with fail
        go_cut [] (fun wx => AddMem wx w1.heap.size (w1.heap.size + 1) u10 l a b x d nx ny ∧ At wx g13 31 [.int .i64 op', .int .i64 px, .int .i64 py, .int .i64 0, .int .i64 0, .int .i64 0, .int .i64 0, .int .i64 0] ∧ Below w.heap.size w wx)
        case first =>
          cases sub with
          | true =>
            obtain rfl : 1 = op' := HN.out.1
            have e1 : IntKind.i64.wrap (sx - px) = nx := (i64_wrap _).trans HN.out.2.1
            have e2 : IntKind.i64.wrap (sy - py) = ny := (i64_wrap _).trans HN.out.2.2
            obtain ⟨⟨y0, y1, y2, y3, y4, y5, y6, y7⟩, f0, f1, f2, f3, f4, f5, f6, f7⟩ := HX.out.1.eight
            have hne9 := HX.out.1.ne HC.out.1.2 (by decide)
            have hne11 := HX.out.1.ne HC.out.2.1 (by decide)
            have hh := HX.out.1.set_ 0 (.int .i64 1)
            have ho8 := ownS_out (i := 0) (x := .int .i64 1) HC.out.1.1 (ownS_new2 HM.out.1 HX.out.2 l13)
            have HC8 := Lib.hid (And.intro (And.intro ho8 (And.intro (HC.out.1.2.far (p := ⟨g13, 0, none⟩) (Ne.symm hne9) (.int .i64 1)) hh)) (And.intro (HC.out.2.1.far (p := ⟨g13, 0, none⟩) (Ne.symm hne11) (.int .i64 1)) (HC.out.2.2.setCell (p := ⟨g13, 0, none⟩) (show w.heap.size ≤ g13 by have := HBW.out.size; omega) (.int .i64 1))))
            clear hne9 hne11 hh ho8
            go_wp2_with fail
            clear y0 y1 y2 y3 y4 y5 y6 y7 f0 f1 f2 f3 f4 f5 f6 f7
            refine from_table tab_adds8 (by kernel_rfl) (by kernel_rfl) (by kernel_rfl) (by kernel_rfl) fun hTab => ?_
            refine from_gen (fun u => (OwnS u w1.heap.size u10 l ∧ At u (w1.heap.size + 1) 25 [.int .i64 a, .int .i64 b, .int .i64 x, .int .i64 d] ∧ At u g13 31 [.int .i64 1, .int .i64 px, .int .i64 py, .int .i64 0, .int .i64 0, .int .i64 0, .int .i64 0, .int .i64 0]) ∧ At u (w1.heap.size + 1 + 1) 29 [.int .i64 (sx), .int .i64 sy] ∧ Below w.heap.size w u) ?_ ?_
            · exact ⟨⟨HC8.out.1.1.keep (fun _ _ => rfl), HC8.out.1.2.1.drew, HC8.out.1.2.2.drew⟩, HC8.out.2.1.drew, HC8.out.2.2.drew⟩
            intro u hW
            -- operations 0 to 15
            refine from_block' hTab 0 16 (by decide) (by kernel_rfl)
              (fun L a' u => ∃ v51 v52 v53 v54 v55 v56 v57 v58 v59 v60 v61 v62 v63 v64 v65 : Value, a' = ⟨#[Value.slice A n c, .slice (some ⟨gx, ox, none⟩) n1 c1, .slice (some ⟨gy, oy, none⟩) n2 c2, Value.slice A3 n3 c3, undef, undef, undef, undef, .bool false, .pointer (some ⟨w1.heap.size + 1, 0, none⟩), u10, .pointer (some ⟨w1.heap.size + 1 + 1, 0, none⟩), .int .i64 ↑k, .pointer (some ⟨g13, 0, none⟩), undef, undef, undef, Value.slice A n c, .agg #[.int .i64 a, .int .i64 b, .int .i64 x, .int .i64 d], .slice (some ⟨w1.heap.size, 0, none⟩) 0 0, .agg #[.int .i64 0, .int .i64 0], u21, u22, u23, u24, u25, u26, u27, u28, u29, u30, u31, u32, u33, u34, u35, u36, u37, u38, u39, u40, u41, u42, u43, u44, u45, u46, u47, u48, .bool true, .pointer (some ⟨g13, 0, none⟩), v51, v52, v53, v54, v55, v56, v57, v58, v59, v60, v61, v62, v63, v64, v65, u66, u67, u68, u69, u70, u71, u72, u73, u74, u75, u76, u77, u78, u79, u80, u81, u82, u83, u84, u85, u86, undef, undef, undef, undef, undef, undef, undef, undef, undef, undef, undef, undef, undef, undef, undef, undef, undef, undef, undef, undef, undef, undef, undef, undef, undef, undef, undef, undef, undef, undef, undef, undef, undef, undef, undef, undef, undef, undef, undef, undef, undef, undef, undef, undef, undef, undef, undef, undef, undef, undef, undef, undef, undef, undef, undef, undef, undef, undef, undef], []⟩ ∧
                Hid (L 0 = true → v51 = .pointer (some ⟨w1.heap.size + 1 + 1, 0, none⟩)) ∧ Hid (L 1 = true → v52 = .int .i64 (sx)) ∧ Hid (L 2 = true → v53 = .slice (some ⟨gx, ox, none⟩) n1 c1) ∧ Hid (L 3 = true → v54 = .int .i64 ↑k) ∧ Hid (L 4 = true → v55 = .pointer (some ⟨gx, ox + k, none⟩)) ∧ Hid (L 5 = true → v56 = .int .i64 (px)) ∧ Hid (L 6 = true → v57 = .int .i64 nx) ∧ Hid (L 7 = true → v58 = .pointer (some ⟨w1.heap.size + 1 + 1, 1, none⟩)) ∧ Hid (L 8 = true → v59 = .int .i64 (sy)) ∧ Hid (L 9 = true → v60 = .slice (some ⟨gy, oy, none⟩) n2 c2) ∧ Hid (L 10 = true → v61 = .int .i64 ↑k) ∧ Hid (L 11 = true → v62 = .pointer (some ⟨gy, oy + k, none⟩)) ∧ Hid (L 12 = true → v63 = .int .i64 (py)) ∧ Hid (L 13 = true → v64 = .int .i64 ny) ∧ Hid (L 14 = true → v65 = .pointer (some ⟨w1.heap.size + 1 + 1, 0, none⟩)) ∧ Hid (L 15 = true → L 1 = true) ∧ ((OwnS u w1.heap.size u10 l ∧ At u (w1.heap.size + 1) 25 [.int .i64 a, .int .i64 b, .int .i64 x, .int .i64 d] ∧ At u g13 31 [.int .i64 1, .int .i64 px, .int .i64 py, .int .i64 0, .int .i64 0, .int .i64 0, .int .i64 0, .int .i64 0]) ∧ At u (w1.heap.size + 1 + 1) 29 [.int .i64 (bif L 15 then nx else sx), .int .i64 sy] ∧ Below w.heap.size w u)) ?_ ?_ ?_
            · exact ⟨_, _, _, _, _, _, _, _, _, _, _, _, _, _, _, rfl, (Lib.hid fun h => by cases h), (Lib.hid fun h => by cases h), (Lib.hid fun h => by cases h), (Lib.hid fun h => by cases h), (Lib.hid fun h => by cases h), (Lib.hid fun h => by cases h), (Lib.hid fun h => by cases h), (Lib.hid fun h => by cases h), (Lib.hid fun h => by cases h), (Lib.hid fun h => by cases h), (Lib.hid fun h => by cases h), (Lib.hid fun h => by cases h), (Lib.hid fun h => by cases h), (Lib.hid fun h => by cases h), (Lib.hid fun h => by cases h), (Lib.hid fun h => by cases h), hW⟩
            · clear hW
              intro L a' u i hi1 hi2 hI hL hd
              obtain ⟨v51, v52, v53, v54, v55, v56, v57, v58, v59, v60, v61, v62, v63, v64, v65, rfl, k0, k1, k2, k3, k4, k5, k6, k7, k8, k9, k10, k11, k12, k13, k14, q15, hW⟩ := hI
              obtain rfl | rfl | rfl | rfl | rfl | rfl | rfl | rfl | rfl | rfl | rfl | rfl | rfl | rfl | rfl | rfl := (show ∀ i : Nat, 0 ≤ i → i < 16 → (i = 0 ∨ i = 1 ∨ i = 2 ∨ i = 3 ∨ i = 4 ∨ i = 5 ∨ i = 6 ∨ i = 7 ∨ i = 8 ∨ i = 9 ∨ i = 10 ∨ i = 11 ∨ i = 12 ∨ i = 13 ∨ i = 14 ∨ i = 15) by omega) i hi1 hi2
              · -- operation 0
                have HW := Lib.hid hW
                clear hW hL hd hi1 hi2
                refine wpOp_step rfl fun K hK => ?_
                go_simp
                refine hK _ _ ⟨_, _, _, _, _, _, _, _, _, _, _, _, _, _, _, rfl, (Lib.hid fun _ => rfl), k1, k2, k3, k4, k5, k6, k7, k8, k9, k10, k11, k12, k13, k14, q15, HW.out⟩
              · -- operation 1
                have h15 : L 15 = false := by
                  cases hc : L 15 with
                  | false => rfl
                  | true => exact absurd (q15.out hc) (by rw [hL]; decide)
                have hW2 := hW.2.1
                rw [h15] at hW2
                dsimp only [cond_false] at hW2
                clear h15
                obtain rfl := k0.out (hd 0 (by decide))
                obtain ⟨c0, c1⟩ := hW2.two.1
                have HW := Lib.hid hW
                clear hW hL hd hi1 hi2
                refine wpOp_step rfl fun K hK => ?_
                go_simp
                refine hK _ _ ⟨_, _, _, _, _, _, _, _, _, _, _, _, _, _, _, rfl, k0, (Lib.hid fun _ => rfl), k2, k3, k4, k5, k6, k7, k8, k9, k10, k11, k12, k13, k14, (Lib.hid fun _ => rfl), HW.out⟩
              · -- operation 2
                have HW := Lib.hid hW
                clear hW hL hd hi1 hi2
                refine wpOp_step rfl fun K hK => ?_
                go_simp
                refine hK _ _ ⟨_, _, _, _, _, _, _, _, _, _, _, _, _, _, _, rfl, k0, k1, (Lib.hid fun _ => rfl), k3, k4, k5, k6, k7, k8, k9, k10, k11, k12, k13, k14, q15, HW.out⟩
              · -- operation 3
                have HW := Lib.hid hW
                clear hW hL hd hi1 hi2
                refine wpOp_step rfl fun K hK => ?_
                go_simp
                refine hK _ _ ⟨_, _, _, _, _, _, _, _, _, _, _, _, _, _, _, rfl, k0, k1, k2, (Lib.hid fun _ => rfl), k4, k5, k6, k7, k8, k9, k10, k11, k12, k13, k14, q15, HW.out⟩
              · -- operation 4
                obtain rfl := k2.out (hd 2 (by decide))
                obtain rfl := k3.out (hd 3 (by decide))
                have HW := Lib.hid hW
                clear hW hL hd hi1 hi2
                refine wpOp_step rfl fun K hK => ?_
                go_simp
                refine hK _ _ ⟨_, _, _, _, _, _, _, _, _, _, _, _, _, _, _, rfl, k0, k1, k2, k3, (Lib.hid fun _ => rfl), k5, k6, k7, k8, k9, k10, k11, k12, k13, k14, q15, HW.out⟩
              · -- operation 5
                obtain rfl := k4.out (hd 4 (by decide))
                have c0 := (HCX.out.1.by hW.2.2).2
                have HW := Lib.hid hW
                clear hW hL hd hi1 hi2
                refine wpOp_step rfl fun K hK => ?_
                go_simp
                refine hK _ _ ⟨_, _, _, _, _, _, _, _, _, _, _, _, _, _, _, rfl, k0, k1, k2, k3, k4, (Lib.hid fun _ => rfl), k6, k7, k8, k9, k10, k11, k12, k13, k14, q15, HW.out⟩
              · -- operation 6
                obtain rfl := k1.out (hd 1 (by decide))
                obtain rfl := k5.out (hd 5 (by decide))
                have HW := Lib.hid hW
                clear hW hL hd hi1 hi2
                refine wpOp_step rfl fun K hK => ?_
                go_simp
                refine hK _ _ ⟨_, _, _, _, _, _, _, _, _, _, _, _, _, _, _, rfl, k0, k1, k2, k3, k4, k5, (Lib.hid fun _ => rfl), k7, k8, k9, k10, k11, k12, k13, k14, q15, HW.out⟩
              · -- operation 7
                have HW := Lib.hid hW
                clear hW hL hd hi1 hi2
                refine wpOp_step rfl fun K hK => ?_
                go_simp
                refine hK _ _ ⟨_, _, _, _, _, _, _, _, _, _, _, _, _, _, _, rfl, k0, k1, k2, k3, k4, k5, k6, (Lib.hid fun _ => rfl), k8, k9, k10, k11, k12, k13, k14, q15, HW.out⟩
              · -- operation 8
                have hW2 := hW.2.1
                obtain rfl := k7.out (hd 7 (by decide))
                obtain ⟨c0, c1⟩ := hW2.two.1
                have HW := Lib.hid hW
                clear hW hL hd hi1 hi2
                refine wpOp_step rfl fun K hK => ?_
                go_simp
                refine hK _ _ ⟨_, _, _, _, _, _, _, _, _, _, _, _, _, _, _, rfl, k0, k1, k2, k3, k4, k5, k6, k7, (Lib.hid fun _ => rfl), k9, k10, k11, k12, k13, k14, q15, HW.out⟩
              · -- operation 9
                have HW := Lib.hid hW
                clear hW hL hd hi1 hi2
                refine wpOp_step rfl fun K hK => ?_
                go_simp
                refine hK _ _ ⟨_, _, _, _, _, _, _, _, _, _, _, _, _, _, _, rfl, k0, k1, k2, k3, k4, k5, k6, k7, k8, (Lib.hid fun _ => rfl), k10, k11, k12, k13, k14, q15, HW.out⟩
              · -- operation 10
                have HW := Lib.hid hW
                clear hW hL hd hi1 hi2
                refine wpOp_step rfl fun K hK => ?_
                go_simp
                refine hK _ _ ⟨_, _, _, _, _, _, _, _, _, _, _, _, _, _, _, rfl, k0, k1, k2, k3, k4, k5, k6, k7, k8, k9, (Lib.hid fun _ => rfl), k11, k12, k13, k14, q15, HW.out⟩
              · -- operation 11
                obtain rfl := k9.out (hd 9 (by decide))
                obtain rfl := k10.out (hd 10 (by decide))
                have HW := Lib.hid hW
                clear hW hL hd hi1 hi2
                refine wpOp_step rfl fun K hK => ?_
                go_simp
                refine hK _ _ ⟨_, _, _, _, _, _, _, _, _, _, _, _, _, _, _, rfl, k0, k1, k2, k3, k4, k5, k6, k7, k8, k9, k10, (Lib.hid fun _ => rfl), k12, k13, k14, q15, HW.out⟩
              · -- operation 12
                obtain rfl := k11.out (hd 11 (by decide))
                have c0 := (HCX.out.2.by hW.2.2).2
                have HW := Lib.hid hW
                clear hW hL hd hi1 hi2
                refine wpOp_step rfl fun K hK => ?_
                go_simp
                refine hK _ _ ⟨_, _, _, _, _, _, _, _, _, _, _, _, _, _, _, rfl, k0, k1, k2, k3, k4, k5, k6, k7, k8, k9, k10, k11, (Lib.hid fun _ => rfl), k13, k14, q15, HW.out⟩
              · -- operation 13
                obtain rfl := k8.out (hd 8 (by decide))
                obtain rfl := k12.out (hd 12 (by decide))
                have HW := Lib.hid hW
                clear hW hL hd hi1 hi2
                refine wpOp_step rfl fun K hK => ?_
                go_simp
                refine hK _ _ ⟨_, _, _, _, _, _, _, _, _, _, _, _, _, _, _, rfl, k0, k1, k2, k3, k4, k5, k6, k7, k8, k9, k10, k11, k12, (Lib.hid fun _ => rfl), k14, q15, HW.out⟩
              · -- operation 14
                have HW := Lib.hid hW
                clear hW hL hd hi1 hi2
                refine wpOp_step rfl fun K hK => ?_
                go_simp
                refine hK _ _ ⟨_, _, _, _, _, _, _, _, _, _, _, _, _, _, _, rfl, k0, k1, k2, k3, k4, k5, k6, k7, k8, k9, k10, k11, k12, k13, (Lib.hid fun _ => rfl), q15, HW.out⟩
              · -- operation 15
                obtain rfl := k14.out (hd 14 (by decide))
                obtain rfl := k6.out (hd 6 (by decide))
                have hda := hd 1 (by decide)
                rw [hL] at hW
                dsimp only [cond_false] at hW
                obtain ⟨⟨c0, c1⟩, z0, z1⟩ := hW.2.1.two
                have HW := Lib.hid hW
                clear hW hL hd hi1 hi2
                refine wpOp_step rfl fun K hK => ?_
                go_simp
                refine hK _ _ ⟨_, _, _, _, _, _, _, _, _, _, _, _, _, _, _, rfl, k0, k1, k2, k3, k4, k5, k6, k7, k8, k9, k10, k11, k12, k13, k14, (Lib.hid fun _ => hda), ⟨ownS_set HW.out.1.1 HW.out.2.1 (by decide), HW.out.1.2.1.far (show _ ≠ w1.heap.size + 1 + 1 by omega) _, HW.out.1.2.2.far (HW.out.1.2.2.ne HW.out.2.1 (by decide)) _⟩, HW.out.2.1.set_ 0 _, HW.out.2.2.setCell (show w.heap.size ≤ w1.heap.size + 1 + 1 by omega) _⟩
            clear hW
            clear u
            intro L a' u hI hall
            obtain ⟨v51, v52, v53, v54, v55, v56, v57, v58, v59, v60, v61, v62, v63, v64, v65, rfl, k0, k1, k2, k3, k4, k5, k6, k7, k8, k9, k10, k11, k12, k13, k14, q15, hW⟩ := hI
            obtain rfl := k0.out (hall 0 (by decide))
            obtain rfl := k1.out (hall 1 (by decide))
            obtain rfl := k2.out (hall 2 (by decide))
            obtain rfl := k3.out (hall 3 (by decide))
            obtain rfl := k4.out (hall 4 (by decide))
            obtain rfl := k5.out (hall 5 (by decide))
            obtain rfl := k6.out (hall 6 (by decide))
            obtain rfl := k7.out (hall 7 (by decide))
            obtain rfl := k8.out (hall 8 (by decide))
            obtain rfl := k9.out (hall 9 (by decide))
            obtain rfl := k10.out (hall 10 (by decide))
            obtain rfl := k11.out (hall 11 (by decide))
            obtain rfl := k12.out (hall 12 (by decide))
            obtain rfl := k13.out (hall 13 (by decide))
            obtain rfl := k14.out (hall 14 (by decide))
            rw [show L 15 = true from (hall 15 (by decide))] at hW
            dsimp only [cond_true] at hW
            clear k0 k1 k2 k3 k4 k5 k6 k7 k8 k9 k10 k11 k12 k13 k14 q15 hall L
            refine from_tail hTab 16 (by kernel_rfl) ?_
            show wpOps _ _ _ [16, 17] _ _
            clear hTab
            dsimp only
            obtain ⟨⟨c0, c1⟩, d0, d1⟩ := hW.2.1.two
            have HW := Lib.hid hW
            clear hW
            refine wpOps_tail 16 _ rfl rfl ?_
            simp only [List.drop_succ_cons, List.drop_zero]
            go_wp2
            go_meet
            refine ⟨⟨ownS_set HW.out.1.1 HW.out.2.1 (by decide), HW.out.1.2.1.far (show _ ≠ w1.heap.size + 1 + 1 by omega) _, HW.out.2.1.set_ 1 _⟩, HW.out.1.2.2.far (HW.out.1.2.2.ne HW.out.2.1 (by decide)) _, HW.out.2.2.setCell (show w.heap.size ≤ w1.heap.size + 1 + 1 by omega) _⟩
          | false =>
            obtain rfl : 0 = op' := HN.out.1
            have e1 : IntKind.i64.wrap (sx + px) = nx := (i64_wrap _).trans HN.out.2.1
            have e2 : IntKind.i64.wrap (sy + py) = ny := (i64_wrap _).trans HN.out.2.2
            have HC8 := Lib.hid (And.intro (And.intro HC.out.1.1 (And.intro HC.out.1.2 HX.out.1)) (And.intro HC.out.2.1 HC.out.2.2))
            go_wp2_with fail
            refine from_table tab_adds8 (by kernel_rfl) (by kernel_rfl) (by kernel_rfl) (by kernel_rfl) fun hTab => ?_
            refine from_gen (fun u => (OwnS u w1.heap.size u10 l ∧ At u (w1.heap.size + 1) 25 [.int .i64 a, .int .i64 b, .int .i64 x, .int .i64 d] ∧ At u g13 31 [.int .i64 0, .int .i64 px, .int .i64 py, .int .i64 0, .int .i64 0, .int .i64 0, .int .i64 0, .int .i64 0]) ∧ At u (w1.heap.size + 1 + 1) 29 [.int .i64 (sx), .int .i64 sy] ∧ Below w.heap.size w u) ?_ ?_
            · exact ⟨⟨HC8.out.1.1.keep (fun _ _ => rfl), HC8.out.1.2.1.drew, HC8.out.1.2.2.drew⟩, HC8.out.2.1.drew, HC8.out.2.2.drew⟩
            intro u hW
            -- operations 0 to 15
            refine from_block' hTab 0 16 (by decide) (by kernel_rfl)
              (fun L a' u => ∃ v67 v68 v69 v70 v71 v72 v73 v74 v75 v76 v77 v78 v79 v80 v81 : Value, a' = ⟨#[Value.slice A n c, .slice (some ⟨gx, ox, none⟩) n1 c1, .slice (some ⟨gy, oy, none⟩) n2 c2, Value.slice A3 n3 c3, undef, undef, undef, undef, .bool false, .pointer (some ⟨w1.heap.size + 1, 0, none⟩), u10, .pointer (some ⟨w1.heap.size + 1 + 1, 0, none⟩), .int .i64 ↑k, .pointer (some ⟨g13, 0, none⟩), undef, undef, undef, Value.slice A n c, .agg #[.int .i64 a, .int .i64 b, .int .i64 x, .int .i64 d], .slice (some ⟨w1.heap.size, 0, none⟩) 0 0, .agg #[.int .i64 0, .int .i64 0], u21, u22, u23, u24, u25, u26, u27, u28, u29, u30, u31, u32, u33, u34, u35, u36, u37, u38, u39, u40, u41, u42, u43, u44, u45, u46, u47, u48, .bool false, u50, u51, u52, u53, u54, u55, u56, u57, u58, u59, u60, u61, u62, u63, u64, u65, u66, v67, v68, v69, v70, v71, v72, v73, v74, v75, v76, v77, v78, v79, v80, v81, u82, u83, u84, u85, u86, undef, undef, undef, undef, undef, undef, undef, undef, undef, undef, undef, undef, undef, undef, undef, undef, undef, undef, undef, undef, undef, undef, undef, undef, undef, undef, undef, undef, undef, undef, undef, undef, undef, undef, undef, undef, undef, undef, undef, undef, undef, undef, undef, undef, undef, undef, undef, undef, undef, undef, undef, undef, undef, undef, undef, undef, undef, undef, undef], []⟩ ∧
                Hid (L 0 = true → v67 = .pointer (some ⟨w1.heap.size + 1 + 1, 0, none⟩)) ∧ Hid (L 1 = true → v68 = .int .i64 (sx)) ∧ Hid (L 2 = true → v69 = .slice (some ⟨gx, ox, none⟩) n1 c1) ∧ Hid (L 3 = true → v70 = .int .i64 ↑k) ∧ Hid (L 4 = true → v71 = .pointer (some ⟨gx, ox + k, none⟩)) ∧ Hid (L 5 = true → v72 = .int .i64 (px)) ∧ Hid (L 6 = true → v73 = .int .i64 nx) ∧ Hid (L 7 = true → v74 = .pointer (some ⟨w1.heap.size + 1 + 1, 1, none⟩)) ∧ Hid (L 8 = true → v75 = .int .i64 (sy)) ∧ Hid (L 9 = true → v76 = .slice (some ⟨gy, oy, none⟩) n2 c2) ∧ Hid (L 10 = true → v77 = .int .i64 ↑k) ∧ Hid (L 11 = true → v78 = .pointer (some ⟨gy, oy + k, none⟩)) ∧ Hid (L 12 = true → v79 = .int .i64 (py)) ∧ Hid (L 13 = true → v80 = .int .i64 ny) ∧ Hid (L 14 = true → v81 = .pointer (some ⟨w1.heap.size + 1 + 1, 0, none⟩)) ∧ Hid (L 15 = true → L 1 = true) ∧ ((OwnS u w1.heap.size u10 l ∧ At u (w1.heap.size + 1) 25 [.int .i64 a, .int .i64 b, .int .i64 x, .int .i64 d] ∧ At u g13 31 [.int .i64 0, .int .i64 px, .int .i64 py, .int .i64 0, .int .i64 0, .int .i64 0, .int .i64 0, .int .i64 0]) ∧ At u (w1.heap.size + 1 + 1) 29 [.int .i64 (bif L 15 then nx else sx), .int .i64 sy] ∧ Below w.heap.size w u)) ?_ ?_ ?_
            · exact ⟨_, _, _, _, _, _, _, _, _, _, _, _, _, _, _, rfl, (Lib.hid fun h => by cases h), (Lib.hid fun h => by cases h), (Lib.hid fun h => by cases h), (Lib.hid fun h => by cases h), (Lib.hid fun h => by cases h), (Lib.hid fun h => by cases h), (Lib.hid fun h => by cases h), (Lib.hid fun h => by cases h), (Lib.hid fun h => by cases h), (Lib.hid fun h => by cases h), (Lib.hid fun h => by cases h), (Lib.hid fun h => by cases h), (Lib.hid fun h => by cases h), (Lib.hid fun h => by cases h), (Lib.hid fun h => by cases h), (Lib.hid fun h => by cases h), hW⟩
            · clear hW
              intro L a' u i hi1 hi2 hI hL hd
              obtain ⟨v67, v68, v69, v70, v71, v72, v73, v74, v75, v76, v77, v78, v79, v80, v81, rfl, k0, k1, k2, k3, k4, k5, k6, k7, k8, k9, k10, k11, k12, k13, k14, q15, hW⟩ := hI
              obtain rfl | rfl | rfl | rfl | rfl | rfl | rfl | rfl | rfl | rfl | rfl | rfl | rfl | rfl | rfl | rfl := (show ∀ i : Nat, 0 ≤ i → i < 16 → (i = 0 ∨ i = 1 ∨ i = 2 ∨ i = 3 ∨ i = 4 ∨ i = 5 ∨ i = 6 ∨ i = 7 ∨ i = 8 ∨ i = 9 ∨ i = 10 ∨ i = 11 ∨ i = 12 ∨ i = 13 ∨ i = 14 ∨ i = 15) by omega) i hi1 hi2
              · -- operation 0
                have HW := Lib.hid hW
                clear hW hL hd hi1 hi2
                refine wpOp_step rfl fun K hK => ?_
                go_simp
                refine hK _ _ ⟨_, _, _, _, _, _, _, _, _, _, _, _, _, _, _, rfl, (Lib.hid fun _ => rfl), k1, k2, k3, k4, k5, k6, k7, k8, k9, k10, k11, k12, k13, k14, q15, HW.out⟩
              · -- operation 1
                have h15 : L 15 = false := by
                  cases hc : L 15 with
                  | false => rfl
                  | true => exact absurd (q15.out hc) (by rw [hL]; decide)
                have hW2 := hW.2.1
                rw [h15] at hW2
                dsimp only [cond_false] at hW2
                clear h15
                obtain rfl := k0.out (hd 0 (by decide))
                obtain ⟨c0, c1⟩ := hW2.two.1
                have HW := Lib.hid hW
                clear hW hL hd hi1 hi2
                refine wpOp_step rfl fun K hK => ?_
                go_simp
                refine hK _ _ ⟨_, _, _, _, _, _, _, _, _, _, _, _, _, _, _, rfl, k0, (Lib.hid fun _ => rfl), k2, k3, k4, k5, k6, k7, k8, k9, k10, k11, k12, k13, k14, (Lib.hid fun _ => rfl), HW.out⟩
              · -- operation 2
                have HW := Lib.hid hW
                clear hW hL hd hi1 hi2
                refine wpOp_step rfl fun K hK => ?_
                go_simp
                refine hK _ _ ⟨_, _, _, _, _, _, _, _, _, _, _, _, _, _, _, rfl, k0, k1, (Lib.hid fun _ => rfl), k3, k4, k5, k6, k7, k8, k9, k10, k11, k12, k13, k14, q15, HW.out⟩
              · -- operation 3
                have HW := Lib.hid hW
                clear hW hL hd hi1 hi2
                refine wpOp_step rfl fun K hK => ?_
                go_simp
                refine hK _ _ ⟨_, _, _, _, _, _, _, _, _, _, _, _, _, _, _, rfl, k0, k1, k2, (Lib.hid fun _ => rfl), k4, k5, k6, k7, k8, k9, k10, k11, k12, k13, k14, q15, HW.out⟩
              · -- operation 4
                obtain rfl := k2.out (hd 2 (by decide))
                obtain rfl := k3.out (hd 3 (by decide))
                have HW := Lib.hid hW
                clear hW hL hd hi1 hi2
                refine wpOp_step rfl fun K hK => ?_
                go_simp
                refine hK _ _ ⟨_, _, _, _, _, _, _, _, _, _, _, _, _, _, _, rfl, k0, k1, k2, k3, (Lib.hid fun _ => rfl), k5, k6, k7, k8, k9, k10, k11, k12, k13, k14, q15, HW.out⟩
              · -- operation 5
                obtain rfl := k4.out (hd 4 (by decide))
                have c0 := (HCX.out.1.by hW.2.2).2
                have HW := Lib.hid hW
                clear hW hL hd hi1 hi2
                refine wpOp_step rfl fun K hK => ?_
                go_simp
                refine hK _ _ ⟨_, _, _, _, _, _, _, _, _, _, _, _, _, _, _, rfl, k0, k1, k2, k3, k4, (Lib.hid fun _ => rfl), k6, k7, k8, k9, k10, k11, k12, k13, k14, q15, HW.out⟩
              · -- operation 6
                obtain rfl := k1.out (hd 1 (by decide))
                obtain rfl := k5.out (hd 5 (by decide))
                have HW := Lib.hid hW
                clear hW hL hd hi1 hi2
                refine wpOp_step rfl fun K hK => ?_
                go_simp
                refine hK _ _ ⟨_, _, _, _, _, _, _, _, _, _, _, _, _, _, _, rfl, k0, k1, k2, k3, k4, k5, (Lib.hid fun _ => rfl), k7, k8, k9, k10, k11, k12, k13, k14, q15, HW.out⟩
              · -- operation 7
                have HW := Lib.hid hW
                clear hW hL hd hi1 hi2
                refine wpOp_step rfl fun K hK => ?_
                go_simp
                refine hK _ _ ⟨_, _, _, _, _, _, _, _, _, _, _, _, _, _, _, rfl, k0, k1, k2, k3, k4, k5, k6, (Lib.hid fun _ => rfl), k8, k9, k10, k11, k12, k13, k14, q15, HW.out⟩
              · -- operation 8
                have hW2 := hW.2.1
                obtain rfl := k7.out (hd 7 (by decide))
                obtain ⟨c0, c1⟩ := hW2.two.1
                have HW := Lib.hid hW
                clear hW hL hd hi1 hi2
                refine wpOp_step rfl fun K hK => ?_
                go_simp
                refine hK _ _ ⟨_, _, _, _, _, _, _, _, _, _, _, _, _, _, _, rfl, k0, k1, k2, k3, k4, k5, k6, k7, (Lib.hid fun _ => rfl), k9, k10, k11, k12, k13, k14, q15, HW.out⟩
              · -- operation 9
                have HW := Lib.hid hW
                clear hW hL hd hi1 hi2
                refine wpOp_step rfl fun K hK => ?_
                go_simp
                refine hK _ _ ⟨_, _, _, _, _, _, _, _, _, _, _, _, _, _, _, rfl, k0, k1, k2, k3, k4, k5, k6, k7, k8, (Lib.hid fun _ => rfl), k10, k11, k12, k13, k14, q15, HW.out⟩
              · -- operation 10
                have HW := Lib.hid hW
                clear hW hL hd hi1 hi2
                refine wpOp_step rfl fun K hK => ?_
                go_simp
                refine hK _ _ ⟨_, _, _, _, _, _, _, _, _, _, _, _, _, _, _, rfl, k0, k1, k2, k3, k4, k5, k6, k7, k8, k9, (Lib.hid fun _ => rfl), k11, k12, k13, k14, q15, HW.out⟩
              · -- operation 11
                obtain rfl := k9.out (hd 9 (by decide))
                obtain rfl := k10.out (hd 10 (by decide))
                have HW := Lib.hid hW
                clear hW hL hd hi1 hi2
                refine wpOp_step rfl fun K hK => ?_
                go_simp
                refine hK _ _ ⟨_, _, _, _, _, _, _, _, _, _, _, _, _, _, _, rfl, k0, k1, k2, k3, k4, k5, k6, k7, k8, k9, k10, (Lib.hid fun _ => rfl), k12, k13, k14, q15, HW.out⟩
              · -- operation 12
                obtain rfl := k11.out (hd 11 (by decide))
                have c0 := (HCX.out.2.by hW.2.2).2
                have HW := Lib.hid hW
                clear hW hL hd hi1 hi2
                refine wpOp_step rfl fun K hK => ?_
                go_simp
                refine hK _ _ ⟨_, _, _, _, _, _, _, _, _, _, _, _, _, _, _, rfl, k0, k1, k2, k3, k4, k5, k6, k7, k8, k9, k10, k11, (Lib.hid fun _ => rfl), k13, k14, q15, HW.out⟩
              · -- operation 13
                obtain rfl := k8.out (hd 8 (by decide))
                obtain rfl := k12.out (hd 12 (by decide))
                have HW := Lib.hid hW
                clear hW hL hd hi1 hi2
                refine wpOp_step rfl fun K hK => ?_
                go_simp
                refine hK _ _ ⟨_, _, _, _, _, _, _, _, _, _, _, _, _, _, _, rfl, k0, k1, k2, k3, k4, k5, k6, k7, k8, k9, k10, k11, k12, (Lib.hid fun _ => rfl), k14, q15, HW.out⟩
              · -- operation 14
                have HW := Lib.hid hW
                clear hW hL hd hi1 hi2
                refine wpOp_step rfl fun K hK => ?_
                go_simp
                refine hK _ _ ⟨_, _, _, _, _, _, _, _, _, _, _, _, _, _, _, rfl, k0, k1, k2, k3, k4, k5, k6, k7, k8, k9, k10, k11, k12, k13, (Lib.hid fun _ => rfl), q15, HW.out⟩
              · -- operation 15
                obtain rfl := k14.out (hd 14 (by decide))
                obtain rfl := k6.out (hd 6 (by decide))
                have hda := hd 1 (by decide)
                rw [hL] at hW
                dsimp only [cond_false] at hW
                obtain ⟨⟨c0, c1⟩, z0, z1⟩ := hW.2.1.two
                have HW := Lib.hid hW
                clear hW hL hd hi1 hi2
                refine wpOp_step rfl fun K hK => ?_
                go_simp
                refine hK _ _ ⟨_, _, _, _, _, _, _, _, _, _, _, _, _, _, _, rfl, k0, k1, k2, k3, k4, k5, k6, k7, k8, k9, k10, k11, k12, k13, k14, (Lib.hid fun _ => hda), ⟨ownS_set HW.out.1.1 HW.out.2.1 (by decide), HW.out.1.2.1.far (show _ ≠ w1.heap.size + 1 + 1 by omega) _, HW.out.1.2.2.far (HW.out.1.2.2.ne HW.out.2.1 (by decide)) _⟩, HW.out.2.1.set_ 0 _, HW.out.2.2.setCell (show w.heap.size ≤ w1.heap.size + 1 + 1 by omega) _⟩
            clear hW
            clear u
            intro L a' u hI hall
            obtain ⟨v67, v68, v69, v70, v71, v72, v73, v74, v75, v76, v77, v78, v79, v80, v81, rfl, k0, k1, k2, k3, k4, k5, k6, k7, k8, k9, k10, k11, k12, k13, k14, q15, hW⟩ := hI
            obtain rfl := k0.out (hall 0 (by decide))
            obtain rfl := k1.out (hall 1 (by decide))
            obtain rfl := k2.out (hall 2 (by decide))
            obtain rfl := k3.out (hall 3 (by decide))
            obtain rfl := k4.out (hall 4 (by decide))
            obtain rfl := k5.out (hall 5 (by decide))
            obtain rfl := k6.out (hall 6 (by decide))
            obtain rfl := k7.out (hall 7 (by decide))
            obtain rfl := k8.out (hall 8 (by decide))
            obtain rfl := k9.out (hall 9 (by decide))
            obtain rfl := k10.out (hall 10 (by decide))
            obtain rfl := k11.out (hall 11 (by decide))
            obtain rfl := k12.out (hall 12 (by decide))
            obtain rfl := k13.out (hall 13 (by decide))
            obtain rfl := k14.out (hall 14 (by decide))
            rw [show L 15 = true from (hall 15 (by decide))] at hW
            dsimp only [cond_true] at hW
            clear k0 k1 k2 k3 k4 k5 k6 k7 k8 k9 k10 k11 k12 k13 k14 q15 hall L
            refine from_tail hTab 16 (by kernel_rfl) ?_
            show wpOps _ _ _ [16, 17] _ _
            clear hTab
            dsimp only
            obtain ⟨⟨c0, c1⟩, d0, d1⟩ := hW.2.1.two
            have HW := Lib.hid hW
            clear hW
            refine wpOps_tail 16 _ rfl rfl ?_
            simp only [List.drop_succ_cons, List.drop_zero]
            go_wp2
            go_meet
            refine ⟨⟨ownS_set HW.out.1.1 HW.out.2.1 (by decide), HW.out.1.2.1.far (show _ ≠ w1.heap.size + 1 + 1 by omega) _, HW.out.2.1.set_ 1 _⟩, HW.out.1.2.2.far (HW.out.1.2.2.ne HW.out.2.1 (by decide)) _, HW.out.2.2.setCell (show w.heap.size ≤ w1.heap.size + 1 + 1 by omega) _⟩
        case rest =>
          obtain ⟨hm', h13', hb'⟩ := hcut
          obtain ⟨y0, y1, y2, y3, y4, y5, y6, y7⟩ := h13'.eight.1
          have HM' := Lib.hid (And.intro hm' hb')
          clear hm' h13' hb'
          go_wp2_with (at_builtin; refine append_step rfl (.tmp 83) (.tmp 85) rfl _ w1.heap.size _ _ ⟨op', px, py, 0, ⟨0, 0, 0, 0⟩⟩ rfl HM'.out.1.1 rfl (by have := HP.out.2.2.2.1; omega) (by have := HM'.out.1.2.2.lt; omega) ?_; intro v' w5 hown5 hb5 hat5)
          go_roundw
          case rel =>
            refine ⟨k + 1, by omega, by go_num, ?_, HM'.out.2.trans (hb5.mono hsz)⟩
            rw [HP.out.1, sumX_snoc, sumY_snoc, HP.out.2.1, HP.out.2.2.1, show (bif sub then (1 : Int) else 0) = op' from HN.out.1, HN.out.2.1, HN.out.2.2]
            exact ⟨hown5, hat5 _ _ _ (by decide) HM'.out.1.2.1, hat5 _ _ _ (by decide) HM'.out.1.2.2⟩
          case measure => simp [intOf]; omega
    · obtain rfl : k = N := by omega
      have hops := addsS_op z1 z2 bs k
      have hlk : (addsS z1 z2 bs k).length = k := addsS_length z1 z2 bs k
      generalize addsS z1 z2 bs k = l at HM hops hlk
      have hlaw := adds_law ⟨a, b, x, d⟩ l hops
      obtain ⟨sx, hsx⟩ : ∃ v, sumX l = v := ⟨_, rfl⟩
      obtain ⟨sy, hsy⟩ : ∃ v, sumY l = v := ⟨_, rfl⟩
      rw [hsx, hsy] at HM hlaw
      obtain ⟨A10, c10, rfl, hS10⟩ := HM.out.1.form
      rw [hlk]
      obtain ⟨⟨e0, e1, e2, e3⟩, he⟩ : ∃ v, addR ⟨a, b, x, d⟩ sx sy = v := ⟨_, rfl⟩
      rw [he] at hlaw
      have W1' := fun u hu => walk_any a b x d A10 c10 l u hu (by omega)
      rw [hlk] at W1'
      have W2' := fun u g (hg : At u g 31 (sflat1 ⟨0, sx, sy, 0, ⟨0, 0, 0, 0⟩⟩)) => walk_any a b x d (some ⟨g, 0, none⟩) 1 [⟨0, sx, sy, 0, ⟨0, 0, 0, 0⟩⟩] u hg.steps (by simp)
      rw [show runsS ⟨a, b, x, d⟩ [⟨0, sx, sy, 0, ⟨0, 0, 0, 0⟩⟩] [(⟨0, sx, sy, 0, ⟨0, 0, 0, 0⟩⟩ : S)].length = [⟨e0, e1, e2, e3⟩] from congrArg (fun q => [q]) he] at W2'
      have HST := Lib.hid hS10
      have HLAW := Lib.hid (And.intro hlaw (And.intro he hlk))
      have HW1 := Lib.hid W1'
      have HW2 := Lib.hid W2'
      have HR9 := Lib.hid (And.intro HM.out.2.1 HM.out.2.2)
      clear hops hsx hsy hS10 hlaw he W1' W2' hlk HM
      go_wp2_with fail
      refine from_table tab_adds11 (by kernel_rfl) (by kernel_rfl) (by kernel_rfl) (by kernel_rfl) fun hTab => ?_
      refine from_gen (fun u => Below wr.heap.size wr u) ?_ ?_
      · exact (Below.refl _ _).drew
      intro u hW
      -- operations 0 to 6
      refine from_block' hTab 0 7 (by decide) (by kernel_rfl)
        (fun L a' u => ∃ v87 v88 v89 v90 v91 v92 v93 : Value, a' = ⟨#[Value.slice A n c, Value.slice A1 n1 c1, Value.slice A2 n2 c2, Value.slice A3 n3 c3, undef, undef, undef, undef, .bool false, .pointer (some ⟨w1.heap.size + 1, 0, none⟩), Value.slice A10 k c10, .pointer (some ⟨w1.heap.size + 1 + 1, 0, none⟩), .int .i64 ↑k, u13, undef, undef, undef, Value.slice A n c, .agg #[.int .i64 a, .int .i64 b, .int .i64 x, .int .i64 d], .slice (some ⟨w1.heap.size, 0, none⟩) 0 0, .agg #[.int .i64 0, .int .i64 0], .int .i64 ↑k, Value.slice A1 n1 c1, .int .i64 ↑n1, Value.slice A2 n2 c2, .int .i64 ↑n2, .int .i64 ↑k, .bool false, u28, u29, u30, u31, u32, u33, u34, u35, u36, u37, u38, u39, u40, u41, u42, u43, u44, u45, u46, u47, u48, u49, u50, u51, u52, u53, u54, u55, u56, u57, u58, u59, u60, u61, u62, u63, u64, u65, u66, u67, u68, u69, u70, u71, u72, u73, u74, u75, u76, u77, u78, u79, u80, u81, u82, u83, u84, u85, u86, v87, v88, v89, v90, v91, v92, v93, undef, undef, undef, undef, undef, undef, undef, undef, undef, undef, undef, undef, undef, undef, undef, undef, undef, undef, undef, undef, undef, undef, undef, undef, undef, undef, undef, undef, undef, undef, undef, undef, undef, undef, undef, undef, undef, undef, undef, undef, undef, undef, undef, undef, undef, undef, undef, undef, undef, undef, undef, undef], []⟩ ∧
          Hid (L 0 = true → v87 = .agg #[.int .i64 (a), .int .i64 (b), .int .i64 (x), .int .i64 (d)]) ∧ Hid (L 1 = true → v88 = Value.slice A10 k c10) ∧ Hid (L 2 = true → Own u wr.heap.size v89 (runsS ⟨a, b, x, d⟩ l k)) ∧ Hid (L 3 = true → v90 = .agg #[.int .i64 (a), .int .i64 (b), .int .i64 (x), .int .i64 (d)]) ∧ Hid (L 4 = true → v91 = .agg #[.int .i64 (sx), .int .i64 (sy)]) ∧ Hid (L 5 = true → v92 = .agg #[.int .i64 0, .int .i64 (sx), .int .i64 (sy), .int .i64 0, .int .i64 0, .int .i64 0, .int .i64 0, .int .i64 0]) ∧ Hid (L 6 = true → ∃ g93, v93 = .slice (some ⟨g93, 0, none⟩) 1 1 ∧ wr.heap.size ≤ g93 ∧ At u g93 31 [.int .i64 0, .int .i64 (sx), .int .i64 (sy), .int .i64 0, .int .i64 0, .int .i64 0, .int .i64 0, .int .i64 0]) ∧ (Below wr.heap.size wr u)) ?_ ?_ ?_
      · exact ⟨_, _, _, _, _, _, _, rfl, (Lib.hid fun h => by cases h), (Lib.hid fun h => by cases h), (Lib.hid fun h => by cases h), (Lib.hid fun h => by cases h), (Lib.hid fun h => by cases h), (Lib.hid fun h => by cases h), (Lib.hid fun h => by cases h), hW⟩
      · clear hW
        intro L a' u i hi1 hi2 hI hL hd
        obtain ⟨v87, v88, v89, v90, v91, v92, v93, rfl, k0, k1, k2, k3, k4, k5, k6, hW⟩ := hI
        obtain rfl | rfl | rfl | rfl | rfl | rfl | rfl := (show ∀ i : Nat, 0 ≤ i → i < 7 → (i = 0 ∨ i = 1 ∨ i = 2 ∨ i = 3 ∨ i = 4 ∨ i = 5 ∨ i = 6) by omega) i hi1 hi2
        · -- operation 0
          obtain ⟨c0, c1, c2, c3⟩ := (HR9.out.1.by hW).four.1
          have HW := Lib.hid hW
          clear hW hL hd hi1 hi2
          refine wpOp_step rfl fun K hK => ?_
          go_simp
          refine hK _ _ ⟨_, _, _, _, _, _, _, rfl, (Lib.hid fun _ => rfl), k1, k2, k3, k4, k5, k6, HW.out⟩
        · -- operation 1
          have HW := Lib.hid hW
          clear hW hL hd hi1 hi2
          refine wpOp_step rfl fun K hK => ?_
          go_simp
          refine hK _ _ ⟨_, _, _, _, _, _, _, rfl, k0, (Lib.hid fun _ => rfl), k2, k3, k4, k5, k6, HW.out⟩
        · -- operation 2
          obtain rfl := k0.out (hd 0 (by decide))
          obtain rfl := k1.out (hd 1 (by decide))
          have HW := Lib.hid hW
          clear hW hL hd hi1 hi2
          refine wpOp_step rfl fun K hK => ?_
          go_simp
          go_at_call 15
          refine (HW1.out _ (HST.out.by HW.out)).mono ?_
          rintro _ w' ⟨v, rfl, ho, hb⟩
          refine hK _ _ ⟨_, _, _, _, _, _, _, rfl, k0, k1, (Lib.hid fun _ => ho.mono HW.out.size), k3, k4, k5, (Lib.hid fun hl => ?_), HW.out.trans (hb.mono HW.out.size)⟩
          · obtain ⟨gg, eg, lg, hg⟩ := k6.out hl
            exact ⟨gg, eg, lg, hg.by hb⟩
        · -- operation 3
          obtain ⟨c0, c1, c2, c3⟩ := (HR9.out.1.by hW).four.1
          have HW := Lib.hid hW
          clear hW hL hd hi1 hi2
          refine wpOp_step rfl fun K hK => ?_
          go_simp
          refine hK _ _ ⟨_, _, _, _, _, _, _, rfl, k0, k1, k2, (Lib.hid fun _ => rfl), k4, k5, k6, HW.out⟩
        · -- operation 4
          obtain ⟨c0, c1⟩ := (HR9.out.2.by hW).two.1
          have HW := Lib.hid hW
          clear hW hL hd hi1 hi2
          refine wpOp_step rfl fun K hK => ?_
          go_simp
          refine hK _ _ ⟨_, _, _, _, _, _, _, rfl, k0, k1, k2, k3, (Lib.hid fun _ => rfl), k5, k6, HW.out⟩
        · -- operation 5
          obtain rfl := k4.out (hd 4 (by decide))
          have HW := Lib.hid hW
          clear hW hL hd hi1 hi2
          refine wpOp_step rfl fun K hK => ?_
          go_simp
          refine hK _ _ ⟨_, _, _, _, _, _, _, rfl, k0, k1, k2, k3, k4, (Lib.hid fun _ => rfl), k6, HW.out⟩
        · -- operation 6
          obtain rfl := k5.out (hd 5 (by decide))
          have HW := Lib.hid hW
          clear hW hL hd hi1 hi2
          refine wpOp_step rfl fun K hK => ?_
          go_simp
          refine hK _ _ ⟨_, _, _, _, _, _, _, rfl, k0, k1, (Lib.hid fun hl => (k2.out hl).by ((Below.refl _ _).alloc (Nat.le_refl _) _)), k3, k4, k5, (Lib.hid fun _ => ⟨_, rfl, HW.out.size, At.new _ _ _⟩), HW.out.trans (((Below.refl _ _).alloc (Nat.le_refl _) _).mono HW.out.size)⟩
      clear hW
      clear u
      intro L a' u hI hall
      obtain ⟨v87, v88, v89, v90, v91, v92, v93, rfl, k0, k1, k2, k3, k4, k5, k6, hW⟩ := hI
      obtain ⟨g93, e93, l93, h93⟩ := k6.out (hall 6 (by decide))
      obtain rfl := k0.out (hall 0 (by decide))
      obtain rfl := k1.out (hall 1 (by decide))
      have x2 := k2.out (hall 2 (by decide))
      obtain rfl := k3.out (hall 3 (by decide))
      obtain rfl := k4.out (hall 4 (by decide))
      obtain rfl := k5.out (hall 5 (by decide))
      subst e93
      clear k0 k1 k2 k3 k4 k5 k6 hall L
      -- operations 7 to 7
      refine from_block' hTab 7 8 (by decide) (by kernel_rfl)
        (fun L a' u => ∃ v94 : Value, a' = ⟨#[Value.slice A n c, Value.slice A1 n1 c1, Value.slice A2 n2 c2, Value.slice A3 n3 c3, undef, undef, undef, undef, .bool false, .pointer (some ⟨w1.heap.size + 1, 0, none⟩), Value.slice A10 k c10, .pointer (some ⟨w1.heap.size + 1 + 1, 0, none⟩), .int .i64 ↑k, u13, undef, undef, undef, Value.slice A n c, .agg #[.int .i64 a, .int .i64 b, .int .i64 x, .int .i64 d], .slice (some ⟨w1.heap.size, 0, none⟩) 0 0, .agg #[.int .i64 0, .int .i64 0], .int .i64 ↑k, Value.slice A1 n1 c1, .int .i64 ↑n1, Value.slice A2 n2 c2, .int .i64 ↑n2, .int .i64 ↑k, .bool false, u28, u29, u30, u31, u32, u33, u34, u35, u36, u37, u38, u39, u40, u41, u42, u43, u44, u45, u46, u47, u48, u49, u50, u51, u52, u53, u54, u55, u56, u57, u58, u59, u60, u61, u62, u63, u64, u65, u66, u67, u68, u69, u70, u71, u72, u73, u74, u75, u76, u77, u78, u79, u80, u81, u82, u83, u84, u85, u86, .agg #[.int .i64 (a), .int .i64 (b), .int .i64 (x), .int .i64 (d)], Value.slice A10 k c10, v89, .agg #[.int .i64 (a), .int .i64 (b), .int .i64 (x), .int .i64 (d)], .agg #[.int .i64 (sx), .int .i64 (sy)], .agg #[.int .i64 0, .int .i64 (sx), .int .i64 (sy), .int .i64 0, .int .i64 0, .int .i64 0, .int .i64 0, .int .i64 0], .slice (some ⟨g93, 0, none⟩) 1 1, v94, undef, undef, undef, undef, undef, undef, undef, undef, undef, undef, undef, undef, undef, undef, undef, undef, undef, undef, undef, undef, undef, undef, undef, undef, undef, undef, undef, undef, undef, undef, undef, undef, undef, undef, undef, undef, undef, undef, undef, undef, undef, undef, undef, undef, undef, undef, undef, undef, undef, undef, undef], []⟩ ∧
          Hid (L 7 = true → Own u wr.heap.size v94 [⟨e0, e1, e2, e3⟩]) ∧ (Below wr.heap.size wr u) ∧ (Own u wr.heap.size v89 (runsS ⟨a, b, x, d⟩ l k)) ∧ (At u g93 31 [.int .i64 0, .int .i64 (sx), .int .i64 (sy), .int .i64 0, .int .i64 0, .int .i64 0, .int .i64 0, .int .i64 0])) ?_ ?_ ?_
      · exact ⟨_, rfl, (Lib.hid fun h => by cases h), hW, x2, h93⟩
      · clear hW x2 h93
        intro L a' u i hi1 hi2 hI hL hd
        obtain ⟨v94, rfl, k7, hW, x2, h93⟩ := hI
        obtain rfl := (show ∀ i : Nat, 7 ≤ i → i < 8 → (i = 7) by omega) i hi1 hi2
        · -- operation 7
          have HW := Lib.hid hW
          have Hx2 := Lib.hid x2
          have Hh93 := Lib.hid h93
          clear hW x2 h93 hL hd hi1 hi2
          refine wpOp_step rfl fun K hK => ?_
          go_simp
          go_at_call 15
          refine (HW2.out _ _ Hh93.out).mono ?_
          rintro _ w' ⟨v, rfl, ho, hb⟩
          refine hK _ _ ⟨_, rfl, (Lib.hid fun _ => ho.mono HW.out.size), ⟨HW.out.trans (hb.mono HW.out.size), (Hx2.out.by hb), (Hh93.out.by hb)⟩⟩
      clear hW x2 h93
      clear u
      intro L a' u hI hall
      obtain ⟨v94, rfl, k7, hW, x2, h93⟩ := hI
      have x7 := k7.out (hall 7 (by decide))
      clear k7 hall L
      refine from_tail hTab 8 (by kernel_rfl) ?_
      show wpOps _ _ _ [8, 9] _ _
      clear hTab
      dsimp only
      obtain ⟨A14, c14, rfl, hR14, -⟩ := x2.form'
      obtain ⟨A15, c15, rfl, hR15, -⟩ := x7.form'
      obtain ⟨g15, o15, rfl, hg15⟩ := hR15.addr (by simp)
      have hf15 := hR15.four (i := 0) (by simp) rfl hg15
      simp only [Nat.zero_mul, Nat.add_zero] at hf15
      rw [runsS_length, List.length_singleton] at *
      obtain ⟨w5, hw5⟩ : ∃ w5, w5 = u := ⟨_, rfl⟩
      rw [← hw5] at hR14 hR15 hf15 hg15 hW ⊢
      have HB5 := Lib.hid (HB.out.trans (hW.mono HB.out.size))
      have HF15 := Lib.hid hf15
      have HR14 := Lib.hid hR14
      obtain ⟨⟨y0, y1, y2, y3⟩, -⟩ := (HR9.out.1.by hW).four
      obtain ⟨⟨t0, t1⟩, -⟩ := (HR9.out.2.by hW).two
      have q := HLAW.out.2.1
      simp only [addR, R.mk.injEq] at q
      have q0 : IntKind.i64.wrap (a + sx) = e0 := (i64_wrap _).trans q.1
      have q1 : IntKind.i64.wrap (b + sy) = e1 := (i64_wrap _).trans q.2.1
      have q2 : IntKind.i64.wrap (x + sx) = e2 := (i64_wrap _).trans q.2.2.1
      have q3 : IntKind.i64.wrap (d + sy) = e3 := (i64_wrap _).trans q.2.2.2
      clear q hw5 x2 x7 hR14 hR15 hf15 hg15 hW h93
      refine wpOps_tail 8 _ rfl rfl ?_
      simp only [List.drop_succ_cons, List.drop_zero]
      go_wp2_with fail
      clear y0 y1 y2 y3 t0 t1 q0 q1 q2 q3
      by_cases hk0 : k = 0
      · have b0 : ((k : Int) == 0) = true := by rw [hk0]; rfl
        have b1 : (k == 0) = true := by rw [hk0]; rfl
        clear hk0
        refine from_table tab_adds15e (by kernel_rfl) (by kernel_rfl) (by kernel_rfl) (by kernel_rfl) fun hTab => ?_
        refine from_gen (fun u => Four u g15 o15 e0 e1 e2 e3 ∧ At u w5.heap.size 25 [.int .i64 e0, .int .i64 e1, .int .i64 e2, .int .i64 e3] ∧ Below w5.heap.size w5 u) ?_ ?_
        · refine ⟨HF15.out.by ((Below.refl _ _).alloc (Nat.le_refl _) _).drew, ?_, ?_⟩
          · (repeat first | exact At.new' _ _ _ (by first | rfl | (simp only [size_alloc])) | refine At.drew ?_ | refine At.alloc ?_ _)
          · (repeat first | exact Below.refl _ _ | refine Below.drew ?_ | refine Below.alloc ?_ (by first | exact Nat.le_refl _ | (simp only [size_alloc]; omega)) _)
        intro u hW
        -- operations 0 to 3
        refine from_block' hTab 0 4 (by decide) (by kernel_rfl)
          (fun L a' u => ∃ v126 v127 v128 v129 : Value, a' = ⟨#[Value.slice A n c, Value.slice A1 n1 c1, Value.slice A2 n2 c2, Value.slice A3 n3 c3, undef, undef, undef, undef, .bool false, .pointer (some ⟨w1.heap.size + 1, 0, none⟩), Value.slice A10 k c10, .pointer (some ⟨w1.heap.size + 1 + 1, 0, none⟩), .int .i64 ↑k, u13, Value.slice A14 k c14, .slice (some ⟨g15, o15, none⟩) 1 c15, .pointer (some ⟨w5.heap.size, 0, none⟩), Value.slice A n c, .agg #[.int .i64 a, .int .i64 b, .int .i64 x, .int .i64 d], .slice (some ⟨w1.heap.size, 0, none⟩) 0 0, .agg #[.int .i64 0, .int .i64 0], .int .i64 ↑k, Value.slice A1 n1 c1, .int .i64 ↑n1, Value.slice A2 n2 c2, .int .i64 ↑n2, .int .i64 ↑k, .bool false, u28, u29, u30, u31, u32, u33, u34, u35, u36, u37, u38, u39, u40, u41, u42, u43, u44, u45, u46, u47, u48, u49, u50, u51, u52, u53, u54, u55, u56, u57, u58, u59, u60, u61, u62, u63, u64, u65, u66, u67, u68, u69, u70, u71, u72, u73, u74, u75, u76, u77, u78, u79, u80, u81, u82, u83, u84, u85, u86, .agg #[.int .i64 a, .int .i64 b, .int .i64 x, .int .i64 d], Value.slice A10 k c10, Value.slice A14 k c14, .agg #[.int .i64 a, .int .i64 b, .int .i64 x, .int .i64 d], .agg #[.int .i64 sx, .int .i64 sy], .agg #[.int .i64 0, .int .i64 sx, .int .i64 sy, .int .i64 0, .int .i64 0, .int .i64 0, .int .i64 0, .int .i64 0], .slice (some ⟨g93, 0, none⟩) 1 1, .slice (some ⟨g15, o15, none⟩) 1 c15, Value.slice A14 k c14, .int .i64 ↑k, Value.slice A10 k c10, .int .i64 ↑k, .bool false, .bool false, .slice (some ⟨g15, o15, none⟩) 1 c15, .int .i64 1, .bool false, .bool false, .pointer (some ⟨w1.heap.size + 1, 0, none⟩), .int .i64 a, .pointer (some ⟨w1.heap.size + 1 + 1, 0, none⟩), .int .i64 sx, .int .i64 e0, .pointer (some ⟨w1.heap.size + 1, 1, none⟩), .int .i64 b, .pointer (some ⟨w1.heap.size + 1 + 1, 1, none⟩), .int .i64 sy, .int .i64 e1, .pointer (some ⟨w1.heap.size + 1, 2, none⟩), .int .i64 x, .pointer (some ⟨w1.heap.size + 1 + 1, 0, none⟩), .int .i64 sx, .int .i64 e2, .pointer (some ⟨w1.heap.size + 1, 3, none⟩), .int .i64 d, .pointer (some ⟨w1.heap.size + 1 + 1, 1, none⟩), .int .i64 sy, .int .i64 e3, .agg #[.int .i64 e0, .int .i64 e1, .int .i64 e2, .int .i64 e3], v126, v127, v128, v129, undef, undef, undef, undef, undef, undef, undef, undef, undef, undef, undef, undef, undef, undef, undef, undef], []⟩ ∧
            Hid (L 0 = true → v126 = .slice (some ⟨g15, o15, none⟩) 1 c15) ∧ Hid (L 1 = true → v127 = .pointer (some ⟨g15, o15, none⟩)) ∧ Hid (L 2 = true → v128 = .agg #[.int .i64 (e0), .int .i64 (e1), .int .i64 (e2), .int .i64 (e3)]) ∧ Hid (L 3 = true → v129 = .agg #[.int .i64 (e0), .int .i64 (e1), .int .i64 (e2), .int .i64 (e3)]) ∧ (Four u g15 o15 e0 e1 e2 e3 ∧ At u w5.heap.size 25 [.int .i64 e0, .int .i64 e1, .int .i64 e2, .int .i64 e3] ∧ Below w5.heap.size w5 u)) ?_ ?_ ?_
        · exact ⟨_, _, _, _, rfl, (Lib.hid fun h => by cases h), (Lib.hid fun h => by cases h), (Lib.hid fun h => by cases h), (Lib.hid fun h => by cases h), hW⟩
        · clear hW
          intro L a' u i hi1 hi2 hI hL hd
          obtain ⟨v126, v127, v128, v129, rfl, k0, k1, k2, k3, hW⟩ := hI
          obtain rfl | rfl | rfl | rfl := (show ∀ i : Nat, 0 ≤ i → i < 4 → (i = 0 ∨ i = 1 ∨ i = 2 ∨ i = 3) by omega) i hi1 hi2
          · -- operation 0
            have HW := Lib.hid hW
            clear hW hL hd hi1 hi2
            refine wpOp_step rfl fun K hK => ?_
            go_simp
            refine hK _ _ ⟨_, _, _, _, rfl, (Lib.hid fun _ => rfl), k1, k2, k3, HW.out⟩
          · -- operation 1
            obtain rfl := k0.out (hd 0 (by decide))
            have HW := Lib.hid hW
            clear hW hL hd hi1 hi2
            refine wpOp_step rfl fun K hK => ?_
            go_simp
            refine hK _ _ ⟨_, _, _, _, rfl, k0, (Lib.hid fun _ => rfl), k2, k3, HW.out⟩
          · -- operation 2
            obtain rfl := k1.out (hd 1 (by decide))
            obtain ⟨c0, c1, c2, c3⟩ := hW.1.2
            have HW := Lib.hid hW
            clear hW hL hd hi1 hi2
            refine wpOp_step rfl fun K hK => ?_
            go_simp
            refine hK _ _ ⟨_, _, _, _, rfl, k0, k1, (Lib.hid fun _ => rfl), k3, HW.out⟩
          · -- operation 3
            obtain ⟨c0, c1, c2, c3⟩ := hW.2.1.four.1
            have HW := Lib.hid hW
            clear hW hL hd hi1 hi2
            refine wpOp_step rfl fun K hK => ?_
            go_simp
            refine hK _ _ ⟨_, _, _, _, rfl, k0, k1, k2, (Lib.hid fun _ => rfl), HW.out⟩
        clear hW
        clear u
        intro L a' u hI hall
        obtain ⟨v126, v127, v128, v129, rfl, k0, k1, k2, k3, hW⟩ := hI
        obtain rfl := k0.out (hall 0 (by decide))
        obtain rfl := k1.out (hall 1 (by decide))
        obtain rfl := k2.out (hall 2 (by decide))
        obtain rfl := k3.out (hall 3 (by decide))
        clear k0 k1 k2 k3 hall L
        -- operation 4 alone
        refine from_one' hTab 4 (by kernel_rfl) ?_
        have HW := Lib.hid hW
        clear hW
        refine wpOp_step rfl fun K hK => ?_
        go_simp
        refine hK _ _ ?_
        clear hK K
        have hW := HW.out
        clear HW
        -- operation 5 alone
        refine from_one' hTab 5 (by kernel_rfl) ?_
        have HW := Lib.hid hW
        clear hW
        refine wpOp_step rfl fun K hK => ?_
        go_simp
        refine hK _ _ ?_
        clear hK K
        have hW := HW.out
        clear HW
        -- operation 6 alone
        refine from_one' hTab 6 (by kernel_rfl) ?_
        have HW := Lib.hid hW
        clear hW
        refine wpOp_step rfl fun K hK => ?_
        go_simp
        refine hK _ _ ?_
        clear hK K
        have hW := HW.out
        clear HW
        -- operation 7 alone
        refine from_one' hTab 7 (by kernel_rfl) ?_
        have HW := Lib.hid hW
        clear hW
        refine wpOp_step rfl fun K hK => ?_
        go_simp
        refine hK _ _ ?_
        clear hK K
        have hW := HW.out
        clear HW
        -- operation 8 alone
        refine from_one' hTab 8 (by kernel_rfl) ?_
        have HW := Lib.hid hW
        clear hW
        refine wpOp_step rfl fun K hK => ?_
        go_simp
        refine hK _ _ ?_
        clear hK K
        have hW := HW.out
        clear HW
        -- operation 9 alone
        refine from_one' hTab 9 (by kernel_rfl) ?_
        have HW := Lib.hid hW
        clear hW
        refine wpOp_step rfl fun K hK => ?_
        go_simp
        refine hK _ _ ?_
        clear hK K
        have hW := HW.out
        clear HW
        -- operations 10 to 16
        refine from_block' hTab 10 17 (by decide) (by kernel_rfl)
          (fun L a' u => ∃ v136 v137 v138 v139 v140 v141 v142 : Value, a' = ⟨#[Value.slice A n c, Value.slice A1 n1 c1, Value.slice A2 n2 c2, Value.slice A3 n3 c3, undef, undef, undef, undef, .bool false, .pointer (some ⟨w1.heap.size + 1, 0, none⟩), Value.slice A10 k c10, .pointer (some ⟨w1.heap.size + 1 + 1, 0, none⟩), .int .i64 ↑k, u13, Value.slice A14 k c14, .slice (some ⟨g15, o15, none⟩) 1 c15, .pointer (some ⟨w5.heap.size, 0, none⟩), Value.slice A n c, .agg #[.int .i64 a, .int .i64 b, .int .i64 x, .int .i64 d], .slice (some ⟨w1.heap.size, 0, none⟩) 0 0, .agg #[.int .i64 0, .int .i64 0], .int .i64 ↑k, Value.slice A1 n1 c1, .int .i64 ↑n1, Value.slice A2 n2 c2, .int .i64 ↑n2, .int .i64 ↑k, .bool false, u28, u29, u30, u31, u32, u33, u34, u35, u36, u37, u38, u39, u40, u41, u42, u43, u44, u45, u46, u47, u48, u49, u50, u51, u52, u53, u54, u55, u56, u57, u58, u59, u60, u61, u62, u63, u64, u65, u66, u67, u68, u69, u70, u71, u72, u73, u74, u75, u76, u77, u78, u79, u80, u81, u82, u83, u84, u85, u86, .agg #[.int .i64 a, .int .i64 b, .int .i64 x, .int .i64 d], Value.slice A10 k c10, Value.slice A14 k c14, .agg #[.int .i64 a, .int .i64 b, .int .i64 x, .int .i64 d], .agg #[.int .i64 sx, .int .i64 sy], .agg #[.int .i64 0, .int .i64 sx, .int .i64 sy, .int .i64 0, .int .i64 0, .int .i64 0, .int .i64 0, .int .i64 0], .slice (some ⟨g93, 0, none⟩) 1 1, .slice (some ⟨g15, o15, none⟩) 1 c15, Value.slice A14 k c14, .int .i64 ↑k, Value.slice A10 k c10, .int .i64 ↑k, .bool false, .bool false, .slice (some ⟨g15, o15, none⟩) 1 c15, .int .i64 1, .bool false, .bool false, .pointer (some ⟨w1.heap.size + 1, 0, none⟩), .int .i64 a, .pointer (some ⟨w1.heap.size + 1 + 1, 0, none⟩), .int .i64 sx, .int .i64 e0, .pointer (some ⟨w1.heap.size + 1, 1, none⟩), .int .i64 b, .pointer (some ⟨w1.heap.size + 1 + 1, 1, none⟩), .int .i64 sy, .int .i64 e1, .pointer (some ⟨w1.heap.size + 1, 2, none⟩), .int .i64 x, .pointer (some ⟨w1.heap.size + 1 + 1, 0, none⟩), .int .i64 sx, .int .i64 e2, .pointer (some ⟨w1.heap.size + 1, 3, none⟩), .int .i64 d, .pointer (some ⟨w1.heap.size + 1 + 1, 1, none⟩), .int .i64 sy, .int .i64 e3, .agg #[.int .i64 e0, .int .i64 e1, .int .i64 e2, .int .i64 e3], .slice (some ⟨g15, o15, none⟩) 1 c15, .pointer (some ⟨g15, o15, none⟩), .agg #[.int .i64 (e0), .int .i64 (e1), .int .i64 (e2), .int .i64 (e3)], .agg #[.int .i64 (e0), .int .i64 (e1), .int .i64 (e2), .int .i64 (e3)], .bool true, .bool true, Value.slice A14 k c14, .int .i64 ↑k, .bool true, .bool true, v136, v137, v138, v139, v140, v141, v142, undef, undef, undef], []⟩ ∧
            Hid (L 10 = true → v136 = undef) ∧ Hid (L 11 = true → v137 = undef) ∧ Hid (L 12 = true → v138 = undef) ∧ Hid (L 13 = true → v139 = undef) ∧ Hid (L 14 = true → v140 = undef) ∧ Hid (L 15 = true → v141 = undef) ∧ Hid (L 16 = true → v142 = undef) ∧ (Four u g15 o15 e0 e1 e2 e3 ∧ At u w5.heap.size 25 [.int .i64 e0, .int .i64 e1, .int .i64 e2, .int .i64 e3] ∧ Below w5.heap.size w5 u)) ?_ ?_ ?_
        · exact ⟨_, _, _, _, _, _, _, rfl, (Lib.hid fun h => by cases h), (Lib.hid fun h => by cases h), (Lib.hid fun h => by cases h), (Lib.hid fun h => by cases h), (Lib.hid fun h => by cases h), (Lib.hid fun h => by cases h), (Lib.hid fun h => by cases h), hW⟩
        · clear hW
          intro L a' u i hi1 hi2 hI hL hd
          obtain ⟨v136, v137, v138, v139, v140, v141, v142, rfl, k10, k11, k12, k13, k14, k15, k16, hW⟩ := hI
          obtain rfl | rfl | rfl | rfl | rfl | rfl | rfl := (show ∀ i : Nat, 10 ≤ i → i < 17 → (i = 10 ∨ i = 11 ∨ i = 12 ∨ i = 13 ∨ i = 14 ∨ i = 15 ∨ i = 16) by omega) i hi1 hi2
          · -- operation 10
            have HW := Lib.hid hW
            clear hW hL hd hi1 hi2
            refine wpOp_step rfl fun K hK => ?_
            go_simp
            refine hK _ _ ⟨_, _, _, _, _, _, _, rfl, (Lib.hid fun _ => rfl), k11, k12, k13, k14, k15, k16, HW.out⟩
          · -- operation 11
            have HW := Lib.hid hW
            clear hW hL hd hi1 hi2
            refine wpOp_step rfl fun K hK => ?_
            go_simp
            refine hK _ _ ⟨_, _, _, _, _, _, _, rfl, k10, (Lib.hid fun _ => rfl), k12, k13, k14, k15, k16, HW.out⟩
          · -- operation 12
            obtain rfl := k11.out (hd 11 (by decide))
            have HW := Lib.hid hW
            clear hW hL hd hi1 hi2
            refine wpOp_step rfl fun K hK => ?_
            go_simp
            refine hK _ _ ⟨_, _, _, _, _, _, _, rfl, k10, k11, (Lib.hid fun _ => rfl), k13, k14, k15, k16, HW.out⟩
          · -- operation 13
            obtain rfl := k12.out (hd 12 (by decide))
            have HW := Lib.hid hW
            clear hW hL hd hi1 hi2
            refine wpOp_step rfl fun K hK => ?_
            go_simp
            refine hK _ _ ⟨_, _, _, _, _, _, _, rfl, k10, k11, k12, (Lib.hid fun _ => rfl), k14, k15, k16, HW.out⟩
          · -- operation 14
            obtain rfl := k10.out (hd 10 (by decide))
            obtain rfl := k13.out (hd 13 (by decide))
            have HW := Lib.hid hW
            clear hW hL hd hi1 hi2
            refine wpOp_step rfl fun K hK => ?_
            go_simp
            refine hK _ _ ⟨_, _, _, _, _, _, _, rfl, k10, k11, k12, k13, (Lib.hid fun _ => rfl), k15, k16, HW.out⟩
          · -- operation 15
            obtain rfl := k14.out (hd 14 (by decide))
            have HW := Lib.hid hW
            clear hW hL hd hi1 hi2
            refine wpOp_step rfl fun K hK => ?_
            go_simp
            refine hK _ _ ⟨_, _, _, _, _, _, _, rfl, k10, k11, k12, k13, k14, (Lib.hid fun _ => rfl), k16, HW.out⟩
          · -- operation 16
            have HW := Lib.hid hW
            clear hW hL hd hi1 hi2
            refine wpOp_step rfl fun K hK => ?_
            go_simp
            refine hK _ _ ⟨_, _, _, _, _, _, _, rfl, k10, k11, k12, k13, k14, k15, (Lib.hid fun _ => rfl), HW.out⟩
        clear hW
        clear u
        intro L a' u hI hall
        obtain ⟨v136, v137, v138, v139, v140, v141, v142, rfl, k10, k11, k12, k13, k14, k15, k16, hW⟩ := hI
        obtain rfl := k10.out (hall 10 (by decide))
        obtain rfl := k11.out (hall 11 (by decide))
        obtain rfl := k12.out (hall 12 (by decide))
        obtain rfl := k13.out (hall 13 (by decide))
        obtain rfl := k14.out (hall 14 (by decide))
        obtain rfl := k15.out (hall 15 (by decide))
        obtain rfl := k16.out (hall 16 (by decide))
        clear k10 k11 k12 k13 k14 k15 k16 hall L
        -- operation 17 alone
        refine from_one' hTab 17 (by kernel_rfl) ?_
        have HW := Lib.hid hW
        clear hW
        refine wpOp_step rfl fun K hK => ?_
        go_simp
        refine hK _ _ ?_
        clear hK K
        have hW := HW.out
        clear HW
        -- operation 18 alone
        refine from_one' hTab 18 (by kernel_rfl) ?_
        have HW := Lib.hid hW
        clear hW
        refine wpOp_step rfl fun K hK => ?_
        go_simp
        refine hK _ _ ?_
        clear hK K
        have hW := HW.out
        clear HW
        -- operation 19 alone
        refine from_one' hTab 19 (by kernel_rfl) ?_
        have HW := Lib.hid hW
        clear hW
        refine wpOp_step rfl fun K hK => ?_
        go_simp
        refine hK _ _ ?_
        clear hK K
        have hW := HW.out
        clear HW
        -- operation 20 alone
        refine from_one' hTab 20 (by kernel_rfl) ?_
        have HW := Lib.hid hW
        clear hW
        refine wpOp_step rfl fun K hK => ?_
        go_simp
        refine hK _ _ ?_
        clear hK K
        have hW := HW.out
        clear HW
        refine from_end' hTab 21 (by kernel_rfl) ?_
        clear hTab
        have HW := Lib.hid hW
        clear hW
        go_wp2
        go_ret
        exact ⟨rfl, HB5.out.trans (HW.out.2.2.mono HB5.out.size)⟩
      · have b0 : ((k : Int) == 0) = false := beq_eq_false_iff_ne.2 (by omega)
        have b1 : (k == 0) = false := beq_eq_false_iff_ne.2 hk0
        have x1 : IntKind.i64.wrap ((k : Int) - 1) = (k : Int) - 1 := IntWalk.i64_in _ (by omega)
        have x2 : 0 ≤ (k : Int) - 1 := by omega
        have x3 : (k : Int) - 1 < k := by omega
        have x4 : ((k : Int) - 1).toNat = k - 1 := by omega
        have x5 : 1 ≤ (k : Int) := by omega
        have x6 : 1 ≤ k := by omega
        obtain ⟨g14, o14, rfl, hg14⟩ := HR14.out.addr (by rw [runsS_length]; omega)
        have hget := runsS_get ⟨a, b, x, d⟩ l k (k - 1) (by omega)
        rw [show k - 1 + 1 = k by omega, List.take_of_length_le (by rw [HLAW.out.2.2]; exact Nat.le_refl _), HLAW.out.1 (by rw [HLAW.out.2.2]; omega)] at hget
        have HLAST := Lib.hid (HR14.out.four (i := k - 1) (by rw [runsS_length]; omega) hget hg14)
        clear hget hg14
        refine from_table tab_adds15e (by kernel_rfl) (by kernel_rfl) (by kernel_rfl) (by kernel_rfl) fun hTab => ?_
        refine from_gen (fun u => Four u g15 o15 e0 e1 e2 e3 ∧ At u w5.heap.size 25 [.int .i64 e0, .int .i64 e1, .int .i64 e2, .int .i64 e3] ∧ Below w5.heap.size w5 u) ?_ ?_
        · refine ⟨HF15.out.by ((Below.refl _ _).alloc (Nat.le_refl _) _).drew, ?_, ?_⟩
          · (repeat first | exact At.new' _ _ _ (by first | rfl | (simp only [size_alloc])) | refine At.drew ?_ | refine At.alloc ?_ _)
          · (repeat first | exact Below.refl _ _ | refine Below.drew ?_ | refine Below.alloc ?_ (by first | exact Nat.le_refl _ | (simp only [size_alloc]; omega)) _)
        intro u hW
        -- operations 0 to 3
        refine from_block' hTab 0 4 (by decide) (by kernel_rfl)
          (fun L a' u => ∃ v126 v127 v128 v129 : Value, a' = ⟨#[Value.slice A n c, Value.slice A1 n1 c1, Value.slice A2 n2 c2, Value.slice A3 n3 c3, undef, undef, undef, undef, .bool false, .pointer (some ⟨w1.heap.size + 1, 0, none⟩), Value.slice A10 k c10, .pointer (some ⟨w1.heap.size + 1 + 1, 0, none⟩), .int .i64 ↑k, u13, .slice (some ⟨g14, o14, none⟩) k c14, .slice (some ⟨g15, o15, none⟩) 1 c15, .pointer (some ⟨w5.heap.size, 0, none⟩), Value.slice A n c, .agg #[.int .i64 a, .int .i64 b, .int .i64 x, .int .i64 d], .slice (some ⟨w1.heap.size, 0, none⟩) 0 0, .agg #[.int .i64 0, .int .i64 0], .int .i64 ↑k, Value.slice A1 n1 c1, .int .i64 ↑n1, Value.slice A2 n2 c2, .int .i64 ↑n2, .int .i64 ↑k, .bool false, u28, u29, u30, u31, u32, u33, u34, u35, u36, u37, u38, u39, u40, u41, u42, u43, u44, u45, u46, u47, u48, u49, u50, u51, u52, u53, u54, u55, u56, u57, u58, u59, u60, u61, u62, u63, u64, u65, u66, u67, u68, u69, u70, u71, u72, u73, u74, u75, u76, u77, u78, u79, u80, u81, u82, u83, u84, u85, u86, .agg #[.int .i64 a, .int .i64 b, .int .i64 x, .int .i64 d], Value.slice A10 k c10, .slice (some ⟨g14, o14, none⟩) k c14, .agg #[.int .i64 a, .int .i64 b, .int .i64 x, .int .i64 d], .agg #[.int .i64 sx, .int .i64 sy], .agg #[.int .i64 0, .int .i64 sx, .int .i64 sy, .int .i64 0, .int .i64 0, .int .i64 0, .int .i64 0, .int .i64 0], .slice (some ⟨g93, 0, none⟩) 1 1, .slice (some ⟨g15, o15, none⟩) 1 c15, .slice (some ⟨g14, o14, none⟩) k c14, .int .i64 ↑k, Value.slice A10 k c10, .int .i64 ↑k, .bool false, .bool false, .slice (some ⟨g15, o15, none⟩) 1 c15, .int .i64 1, .bool false, .bool false, .pointer (some ⟨w1.heap.size + 1, 0, none⟩), .int .i64 a, .pointer (some ⟨w1.heap.size + 1 + 1, 0, none⟩), .int .i64 sx, .int .i64 e0, .pointer (some ⟨w1.heap.size + 1, 1, none⟩), .int .i64 b, .pointer (some ⟨w1.heap.size + 1 + 1, 1, none⟩), .int .i64 sy, .int .i64 e1, .pointer (some ⟨w1.heap.size + 1, 2, none⟩), .int .i64 x, .pointer (some ⟨w1.heap.size + 1 + 1, 0, none⟩), .int .i64 sx, .int .i64 e2, .pointer (some ⟨w1.heap.size + 1, 3, none⟩), .int .i64 d, .pointer (some ⟨w1.heap.size + 1 + 1, 1, none⟩), .int .i64 sy, .int .i64 e3, .agg #[.int .i64 e0, .int .i64 e1, .int .i64 e2, .int .i64 e3], v126, v127, v128, v129, undef, undef, undef, undef, undef, undef, undef, undef, undef, undef, undef, undef, undef, undef, undef, undef], []⟩ ∧
            Hid (L 0 = true → v126 = .slice (some ⟨g15, o15, none⟩) 1 c15) ∧ Hid (L 1 = true → v127 = .pointer (some ⟨g15, o15, none⟩)) ∧ Hid (L 2 = true → v128 = .agg #[.int .i64 (e0), .int .i64 (e1), .int .i64 (e2), .int .i64 (e3)]) ∧ Hid (L 3 = true → v129 = .agg #[.int .i64 (e0), .int .i64 (e1), .int .i64 (e2), .int .i64 (e3)]) ∧ (Four u g15 o15 e0 e1 e2 e3 ∧ At u w5.heap.size 25 [.int .i64 e0, .int .i64 e1, .int .i64 e2, .int .i64 e3] ∧ Below w5.heap.size w5 u)) ?_ ?_ ?_
        · exact ⟨_, _, _, _, rfl, (Lib.hid fun h => by cases h), (Lib.hid fun h => by cases h), (Lib.hid fun h => by cases h), (Lib.hid fun h => by cases h), hW⟩
        · clear hW
          intro L a' u i hi1 hi2 hI hL hd
          obtain ⟨v126, v127, v128, v129, rfl, k0, k1, k2, k3, hW⟩ := hI
          obtain rfl | rfl | rfl | rfl := (show ∀ i : Nat, 0 ≤ i → i < 4 → (i = 0 ∨ i = 1 ∨ i = 2 ∨ i = 3) by omega) i hi1 hi2
          · -- operation 0
            have HW := Lib.hid hW
            clear hW hL hd hi1 hi2
            refine wpOp_step rfl fun K hK => ?_
            go_simp
            refine hK _ _ ⟨_, _, _, _, rfl, (Lib.hid fun _ => rfl), k1, k2, k3, HW.out⟩
          · -- operation 1
            obtain rfl := k0.out (hd 0 (by decide))
            have HW := Lib.hid hW
            clear hW hL hd hi1 hi2
            refine wpOp_step rfl fun K hK => ?_
            go_simp
            refine hK _ _ ⟨_, _, _, _, rfl, k0, (Lib.hid fun _ => rfl), k2, k3, HW.out⟩
          · -- operation 2
            obtain rfl := k1.out (hd 1 (by decide))
            obtain ⟨c0, c1, c2, c3⟩ := hW.1.2
            have HW := Lib.hid hW
            clear hW hL hd hi1 hi2
            refine wpOp_step rfl fun K hK => ?_
            go_simp
            refine hK _ _ ⟨_, _, _, _, rfl, k0, k1, (Lib.hid fun _ => rfl), k3, HW.out⟩
          · -- operation 3
            obtain ⟨c0, c1, c2, c3⟩ := hW.2.1.four.1
            have HW := Lib.hid hW
            clear hW hL hd hi1 hi2
            refine wpOp_step rfl fun K hK => ?_
            go_simp
            refine hK _ _ ⟨_, _, _, _, rfl, k0, k1, k2, (Lib.hid fun _ => rfl), HW.out⟩
        clear hW
        clear u
        intro L a' u hI hall
        obtain ⟨v126, v127, v128, v129, rfl, k0, k1, k2, k3, hW⟩ := hI
        obtain rfl := k0.out (hall 0 (by decide))
        obtain rfl := k1.out (hall 1 (by decide))
        obtain rfl := k2.out (hall 2 (by decide))
        obtain rfl := k3.out (hall 3 (by decide))
        clear k0 k1 k2 k3 hall L
        -- operation 4 alone
        refine from_one' hTab 4 (by kernel_rfl) ?_
        have HW := Lib.hid hW
        clear hW
        refine wpOp_step rfl fun K hK => ?_
        go_simp
        refine hK _ _ ?_
        clear hK K
        have hW := HW.out
        clear HW
        -- operation 5 alone
        refine from_one' hTab 5 (by kernel_rfl) ?_
        have HW := Lib.hid hW
        clear hW
        refine wpOp_step rfl fun K hK => ?_
        go_simp
        refine hK _ _ ?_
        clear hK K
        have hW := HW.out
        clear HW
        -- operation 6 alone
        refine from_one' hTab 6 (by kernel_rfl) ?_
        have HW := Lib.hid hW
        clear hW
        refine wpOp_step rfl fun K hK => ?_
        go_simp
        refine hK _ _ ?_
        clear hK K
        have hW := HW.out
        clear HW
        -- operation 7 alone
        refine from_one' hTab 7 (by kernel_rfl) ?_
        have HW := Lib.hid hW
        clear hW
        refine wpOp_step rfl fun K hK => ?_
        go_simp
        refine hK _ _ ?_
        clear hK K
        have hW := HW.out
        clear HW
        -- operation 8 alone
        refine from_one' hTab 8 (by kernel_rfl) ?_
        have HW := Lib.hid hW
        clear hW
        refine wpOp_step rfl fun K hK => ?_
        go_simp
        refine hK _ _ ?_
        clear hK K
        have hW := HW.out
        clear HW
        -- operation 9 alone
        refine from_one' hTab 9 (by kernel_rfl) ?_
        have HW := Lib.hid hW
        clear hW
        refine wpOp_step rfl fun K hK => ?_
        go_simp
        refine hK _ _ ?_
        clear hK K
        have hW := HW.out
        clear HW
        -- operations 10 to 16
        refine from_block' hTab 10 17 (by decide) (by kernel_rfl)
          (fun L a' u => ∃ v136 v137 v138 v139 v140 v141 v142 : Value, a' = ⟨#[Value.slice A n c, Value.slice A1 n1 c1, Value.slice A2 n2 c2, Value.slice A3 n3 c3, undef, undef, undef, undef, .bool false, .pointer (some ⟨w1.heap.size + 1, 0, none⟩), Value.slice A10 k c10, .pointer (some ⟨w1.heap.size + 1 + 1, 0, none⟩), .int .i64 ↑k, u13, .slice (some ⟨g14, o14, none⟩) k c14, .slice (some ⟨g15, o15, none⟩) 1 c15, .pointer (some ⟨w5.heap.size, 0, none⟩), Value.slice A n c, .agg #[.int .i64 a, .int .i64 b, .int .i64 x, .int .i64 d], .slice (some ⟨w1.heap.size, 0, none⟩) 0 0, .agg #[.int .i64 0, .int .i64 0], .int .i64 ↑k, Value.slice A1 n1 c1, .int .i64 ↑n1, Value.slice A2 n2 c2, .int .i64 ↑n2, .int .i64 ↑k, .bool false, u28, u29, u30, u31, u32, u33, u34, u35, u36, u37, u38, u39, u40, u41, u42, u43, u44, u45, u46, u47, u48, u49, u50, u51, u52, u53, u54, u55, u56, u57, u58, u59, u60, u61, u62, u63, u64, u65, u66, u67, u68, u69, u70, u71, u72, u73, u74, u75, u76, u77, u78, u79, u80, u81, u82, u83, u84, u85, u86, .agg #[.int .i64 a, .int .i64 b, .int .i64 x, .int .i64 d], Value.slice A10 k c10, .slice (some ⟨g14, o14, none⟩) k c14, .agg #[.int .i64 a, .int .i64 b, .int .i64 x, .int .i64 d], .agg #[.int .i64 sx, .int .i64 sy], .agg #[.int .i64 0, .int .i64 sx, .int .i64 sy, .int .i64 0, .int .i64 0, .int .i64 0, .int .i64 0, .int .i64 0], .slice (some ⟨g93, 0, none⟩) 1 1, .slice (some ⟨g15, o15, none⟩) 1 c15, .slice (some ⟨g14, o14, none⟩) k c14, .int .i64 ↑k, Value.slice A10 k c10, .int .i64 ↑k, .bool false, .bool false, .slice (some ⟨g15, o15, none⟩) 1 c15, .int .i64 1, .bool false, .bool false, .pointer (some ⟨w1.heap.size + 1, 0, none⟩), .int .i64 a, .pointer (some ⟨w1.heap.size + 1 + 1, 0, none⟩), .int .i64 sx, .int .i64 e0, .pointer (some ⟨w1.heap.size + 1, 1, none⟩), .int .i64 b, .pointer (some ⟨w1.heap.size + 1 + 1, 1, none⟩), .int .i64 sy, .int .i64 e1, .pointer (some ⟨w1.heap.size + 1, 2, none⟩), .int .i64 x, .pointer (some ⟨w1.heap.size + 1 + 1, 0, none⟩), .int .i64 sx, .int .i64 e2, .pointer (some ⟨w1.heap.size + 1, 3, none⟩), .int .i64 d, .pointer (some ⟨w1.heap.size + 1 + 1, 1, none⟩), .int .i64 sy, .int .i64 e3, .agg #[.int .i64 e0, .int .i64 e1, .int .i64 e2, .int .i64 e3], .slice (some ⟨g15, o15, none⟩) 1 c15, .pointer (some ⟨g15, o15, none⟩), .agg #[.int .i64 (e0), .int .i64 (e1), .int .i64 (e2), .int .i64 (e3)], .agg #[.int .i64 (e0), .int .i64 (e1), .int .i64 (e2), .int .i64 (e3)], .bool true, .bool true, .slice (some ⟨g14, o14, none⟩) k c14, .int .i64 ↑k, .bool false, .bool false, v136, v137, v138, v139, v140, v141, v142, undef, undef, undef], []⟩ ∧
            Hid (L 10 = true → v136 = .slice (some ⟨g14, o14, none⟩) k c14) ∧ Hid (L 11 = true → v137 = .slice (some ⟨g14, o14, none⟩) k c14) ∧ Hid (L 12 = true → v138 = .int .i64 ↑k) ∧ Hid (L 13 = true → v139 = .int .i64 (↑k - 1)) ∧ Hid (L 14 = true → v140 = .pointer (some ⟨g14, o14 + (k - 1) * 4, none⟩)) ∧ Hid (L 15 = true → v141 = .agg #[.int .i64 (e0), .int .i64 (e1), .int .i64 (e2), .int .i64 (e3)]) ∧ Hid (L 16 = true → v142 = .agg #[.int .i64 (e0), .int .i64 (e1), .int .i64 (e2), .int .i64 (e3)]) ∧ (Four u g15 o15 e0 e1 e2 e3 ∧ At u w5.heap.size 25 [.int .i64 e0, .int .i64 e1, .int .i64 e2, .int .i64 e3] ∧ Below w5.heap.size w5 u)) ?_ ?_ ?_
        · exact ⟨_, _, _, _, _, _, _, rfl, (Lib.hid fun h => by cases h), (Lib.hid fun h => by cases h), (Lib.hid fun h => by cases h), (Lib.hid fun h => by cases h), (Lib.hid fun h => by cases h), (Lib.hid fun h => by cases h), (Lib.hid fun h => by cases h), hW⟩
        · clear hW
          intro L a' u i hi1 hi2 hI hL hd
          obtain ⟨v136, v137, v138, v139, v140, v141, v142, rfl, k10, k11, k12, k13, k14, k15, k16, hW⟩ := hI
          obtain rfl | rfl | rfl | rfl | rfl | rfl | rfl := (show ∀ i : Nat, 10 ≤ i → i < 17 → (i = 10 ∨ i = 11 ∨ i = 12 ∨ i = 13 ∨ i = 14 ∨ i = 15 ∨ i = 16) by omega) i hi1 hi2
          · -- operation 10
            have HW := Lib.hid hW
            clear hW hL hd hi1 hi2
            refine wpOp_step rfl fun K hK => ?_
            go_simp
            refine hK _ _ ⟨_, _, _, _, _, _, _, rfl, (Lib.hid fun _ => rfl), k11, k12, k13, k14, k15, k16, HW.out⟩
          · -- operation 11
            have HW := Lib.hid hW
            clear hW hL hd hi1 hi2
            refine wpOp_step rfl fun K hK => ?_
            go_simp
            refine hK _ _ ⟨_, _, _, _, _, _, _, rfl, k10, (Lib.hid fun _ => rfl), k12, k13, k14, k15, k16, HW.out⟩
          · -- operation 12
            obtain rfl := k11.out (hd 11 (by decide))
            have HW := Lib.hid hW
            clear hW hL hd hi1 hi2
            refine wpOp_step rfl fun K hK => ?_
            go_simp
            refine hK _ _ ⟨_, _, _, _, _, _, _, rfl, k10, k11, (Lib.hid fun _ => rfl), k13, k14, k15, k16, HW.out⟩
          · -- operation 13
            obtain rfl := k12.out (hd 12 (by decide))
            have HW := Lib.hid hW
            clear hW hL hd hi1 hi2
            refine wpOp_step rfl fun K hK => ?_
            go_simp
            refine hK _ _ ⟨_, _, _, _, _, _, _, rfl, k10, k11, k12, (Lib.hid fun _ => rfl), k14, k15, k16, HW.out⟩
          · -- operation 14
            obtain rfl := k10.out (hd 10 (by decide))
            obtain rfl := k13.out (hd 13 (by decide))
            have HW := Lib.hid hW
            clear hW hL hd hi1 hi2
            refine wpOp_step rfl fun K hK => ?_
            go_simp
            refine hK _ _ ⟨_, _, _, _, _, _, _, rfl, k10, k11, k12, k13, (Lib.hid fun _ => rfl), k15, k16, HW.out⟩
          · -- operation 15
            obtain rfl := k14.out (hd 14 (by decide))
            obtain ⟨c0, c1, c2, c3⟩ := ((HLAST.out.by hW.2.2)).2
            have HW := Lib.hid hW
            clear hW hL hd hi1 hi2
            refine wpOp_step rfl fun K hK => ?_
            go_simp
            refine hK _ _ ⟨_, _, _, _, _, _, _, rfl, k10, k11, k12, k13, k14, (Lib.hid fun _ => rfl), k16, HW.out⟩
          · -- operation 16
            obtain ⟨c0, c1, c2, c3⟩ := hW.2.1.four.1
            have HW := Lib.hid hW
            clear hW hL hd hi1 hi2
            refine wpOp_step rfl fun K hK => ?_
            go_simp
            refine hK _ _ ⟨_, _, _, _, _, _, _, rfl, k10, k11, k12, k13, k14, k15, (Lib.hid fun _ => rfl), HW.out⟩
        clear hW
        clear u
        intro L a' u hI hall
        obtain ⟨v136, v137, v138, v139, v140, v141, v142, rfl, k10, k11, k12, k13, k14, k15, k16, hW⟩ := hI
        obtain rfl := k10.out (hall 10 (by decide))
        obtain rfl := k11.out (hall 11 (by decide))
        obtain rfl := k12.out (hall 12 (by decide))
        obtain rfl := k13.out (hall 13 (by decide))
        obtain rfl := k14.out (hall 14 (by decide))
        obtain rfl := k15.out (hall 15 (by decide))
        obtain rfl := k16.out (hall 16 (by decide))
        clear k10 k11 k12 k13 k14 k15 k16 hall L
        -- operation 17 alone
        refine from_one' hTab 17 (by kernel_rfl) ?_
        have HW := Lib.hid hW
        clear hW
        refine wpOp_step rfl fun K hK => ?_
        go_simp
        refine hK _ _ ?_
        clear hK K
        have hW := HW.out
        clear HW
        -- operation 18 alone
        refine from_one' hTab 18 (by kernel_rfl) ?_
        have HW := Lib.hid hW
        clear hW
        refine wpOp_step rfl fun K hK => ?_
        go_simp
        refine hK _ _ ?_
        clear hK K
        have hW := HW.out
        clear HW
        -- operation 19 alone
        refine from_one' hTab 19 (by kernel_rfl) ?_
        have HW := Lib.hid hW
        clear hW
        refine wpOp_step rfl fun K hK => ?_
        go_simp
        refine hK _ _ ?_
        clear hK K
        have hW := HW.out
        clear HW
        -- operation 20 alone
        refine from_one' hTab 20 (by kernel_rfl) ?_
        have HW := Lib.hid hW
        clear hW
        refine wpOp_step rfl fun K hK => ?_
        go_simp
        refine hK _ _ ?_
        clear hK K
        have hW := HW.out
        clear HW
        refine from_end' hTab 21 (by kernel_rfl) ?_
        clear hTab
        have HW := Lib.hid hW
        clear hW
        go_wp2
        go_ret
        exact ⟨rfl, HB5.out.trans (HW.out.2.2.mono HB5.out.size)⟩
end Go.Proofs.Ytenhhkeajhkfoaa
