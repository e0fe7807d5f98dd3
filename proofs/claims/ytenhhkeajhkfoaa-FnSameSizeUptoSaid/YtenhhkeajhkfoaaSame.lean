/- The walk of FnSameSize. Conditions: at most 1048576 numbers. -/
import Derived.Test.YtenhhkeajhkfoaaBoth
import Derived.Test.YtenhhkeajhkfoaaBools
import Derived.Test.YtenhhkeajhkfoaaPlainAdds
import Derived.Test.YtenhhkeajhkfoaaAppendS
import Derived.Test.YtenhhkeajhkfoaaSpots
import Derived.Test.YtenhhkeajhkfoaaMoves
import Derived.Test.YtenhhkeajhkfoaaHas
import Derived.Test.YtenhhkeajhkfoaaBlocks
import Derived.Test.YtenhhkeajhkfoaaTail
import Derived.Deep.DeepCutAuto
import Derived.Outline
namespace Go.Proofs.Ytenhhkeajhkfoaa
open Go.RowKit

theorem telld (a b c d e f g h : Int) : ∃ t0 t1 t2 t3 t4 : Bool, ∀ w : World,
    Calls Try.prog 37 #[.agg #[.int .i64 0, .int .i64 0], .agg #[.int .i64 a, .int .i64 b, .int .i64 c, .int .i64 d], .agg #[.int .i64 e, .int .i64 f, .int .i64 g, .int .i64 h]] w fun x w' => x = .returned (.agg #[.bool t0, .bool t1, .bool t2, .bool t3, .bool t4, .int .i64 (wrap64 (c - a)), .int .i64 (wrap64 (d - b))]) ∧ Below w.heap.size w w' :=
  ⟨_, _, _, _, _, fun w => tell_any 0 0 a b c d e f g h w⟩
theorem i64_wrap (n : Int) : IntKind.i64.wrap n = wrap64 n := by rw [IntKind.wrap_i64, wrap64]

def tab_same8 : List (List Nat) := [[], [], [], [], [2, 3], [2, 3, 4], [], [], [6, 7], [6, 7, 8], [2, 3, 4, 5, 6, 7, 8, 9], [1, 2, 3, 4, 5, 6, 7, 8, 9, 10], [1, 2, 3, 4, 5, 6, 7, 8, 9, 10, 11], [0, 1, 2, 3, 4, 5, 6, 7, 8, 9, 10, 11, 12], [0, 1, 2, 3, 4, 5, 6, 7, 8, 9, 10, 11, 12, 13]]
def tab_same11 : List (List Nat) := [[], [0], [], [2], [0, 1, 2, 3], [0, 1, 2, 3, 4], [0, 1, 2, 3, 4, 5], [0, 1, 2, 3, 4, 5], [0, 1, 2, 3, 4, 5], [0, 1, 2, 3, 4, 5, 6, 7, 8], [0, 1, 2, 3, 4, 5, 6, 7, 8, 9], [0, 1, 2, 3, 4, 5], [0, 1, 2, 3, 4, 5, 6, 7, 8, 9, 10, 11], [0, 1, 2, 3, 4, 5, 6, 7, 8, 9, 10, 11, 12]]
def tab_same16 : List (List Nat) := [[], [], [1], [], [0, 1, 2, 3], [0, 1, 2, 3, 4], [], [0, 1, 2, 3, 4, 5, 6]]
def tab_same17 : List (List Nat) := [[], [], [], [0, 1, 2], [0, 1, 2, 3], [], [0, 1, 2, 3, 4, 5], [0, 1, 2, 3, 4, 5, 6], [0, 1, 2, 3, 4, 5, 6, 7], [0, 1, 2, 3, 4, 5, 6, 7, 8], [0, 1, 2, 3, 4, 5, 6, 7], [0, 1, 2, 3, 4, 5, 6, 7, 10], [0, 1, 2, 3, 4, 5, 6, 7, 8, 9, 10, 11], [0, 1, 2, 3, 4, 5, 6, 7, 8, 9, 10, 11, 12], [0, 1, 2, 3, 4, 5, 6, 7, 8, 9, 10, 11, 12, 13], [0, 1, 2, 3, 4, 5, 6, 7, 8, 9, 10, 11, 12, 13, 14], [0, 1, 2, 3, 4, 5, 6, 7, 8, 9, 10, 11, 12, 13, 14, 15], [0, 1, 2, 3, 4, 5, 6, 7, 8, 9, 10, 11, 12, 13, 14], [0, 1, 2, 3, 4, 5, 6, 7, 8, 9, 10, 11, 12, 13, 14, 17], [0, 1, 2, 3, 4, 5, 6, 7, 8, 9, 10, 11, 12, 13, 14, 15, 16, 17, 18], [0, 1, 2, 3, 4, 5, 6, 7, 8, 9, 10, 11, 12, 13, 14, 15, 16, 17, 18, 19]]
set_option maxRecDepth 10000 in
set_option maxHeartbeats 8000000 in
theorem same_walk (A A1 A2 A3 : Option Addr) (n c n1 c1 n2 c2 n3 c3 : Nat) (z z1 z2 : List Int) (bs : List Bool) (w : World)
    (h : Ints w A n z) (h1 : Ints w A1 n1 z1) (h2 : Ints w A2 n2 z2) (h3 : Bools w A3 n3 bs) (hn : n1 ≤ 1048576) :
    Calls Try.prog 12 #[.slice A n c, .slice A1 n1 c1, .slice A2 n2 c2, .slice A3 n3 c3] w fun e w' => e = .returned (.bool true) ∧ Below w.heap.size w w' := by
  have L := fun u hu => lrect_any A n c z u hu
  generalize rectOf z = sr at L
  obtain ⟨a, b, x, d⟩ := sr
  have HL := Lib.hid L
  have H := Lib.hid h
  have HH := Lib.hid (And.intro h1 (And.intro h2 h3))
  clear L h h1 h2 h3
  go_enter Try.func12, Try.ntmps12
  go_wp2_with fail
  refine (HL.out _ H.out).mono ?_
  rintro _ w1 ⟨rfl, hb1⟩
  have HB1 := Lib.hid hb1
  clear hb1 HL H
  obtain ⟨N, hN1, hN2, hmn⟩ : ∃ N : Nat, N ≤ n1 ∧ N ≤ n2 ∧ (if n2 < n1 then (n2 : Int) else (n1 : Int)) = (N : Int) := by
    by_cases h : n2 < n1
    · exact ⟨n2, by omega, by omega, if_pos h⟩
    · exact ⟨n1, by omega, by omega, if_neg h⟩
  go_wp2
  go_loopw [10, 11] (fun v i wr => ∃ k : Nat, k ≤ N ∧ i = .int .i64 k ∧ OwnS wr w1.heap.size v (addsS z1 z2 bs k) ∧ At wr (w1.heap.size + 1) 25 [.int .i64 a, .int .i64 b, .int .i64 x, .int .i64 d] ∧ Below w.heap.size w wr) (fun _ i _ => N - (intOf i).toNat)
  case atStart =>
    refine ⟨0, Nat.zero_le _, rfl, (ownS_empty w1).alloc _, ?_, ?_⟩
    · (repeat first | exact At.new' _ _ _ (by first | rfl | (simp only [size_alloc])) | refine At.drew ?_ | refine At.alloc ?_ _)
    · exact (HB1.out.alloc HB1.out.size _).alloc (by rw [size_alloc]; have := HB1.out.size; omega) _
  case round =>
    obtain ⟨k, hk, rfl, hown, hat, hbel⟩ := hrel
    have HM := Lib.hid (And.intro hown hat)
    have HB := Lib.hid hbel
    clear hown hat hbel
    by_cases hlt : k < N
    · have hlt1 : k < n1 := by omega
      have hlt2 : k < n2 := by omega
      obtain ⟨gx, ox, rfl, hgx, cx⟩ := HH.out.1.at_ hlt1
      obtain ⟨gy, oy, rfl, hgy, cy⟩ := HH.out.2.1.at_ hlt2
      have hh3 := HH.out.2.2
      obtain ⟨px, hpx⟩ : ∃ v, z1.getD k 0 = v := ⟨_, rfl⟩
      obtain ⟨py, hpy⟩ : ∃ v, z2.getD k 0 = v := ⟨_, rfl⟩
      obtain ⟨sub, hsub⟩ : ∃ v, bs.getD k false = v := ⟨_, rfl⟩
      have hsuc := addsS_succ z1 z2 bs k
      have hll : (addsS z1 z2 bs k).length ≤ 1048576 := by rw [addsS_length]; omega
      have hat : addAt z1 z2 bs k = ⟨bif sub then 1 else 0, px, py, 0, ⟨0, 0, 0, 0⟩⟩ := by unfold addAt; rw [hpx, hpy, hsub]
      rw [hat] at hsuc
      rw [hpx] at cx
      rw [hpy] at cy
      generalize addsS z1 z2 bs k = l at HM hsuc hll
      have HCX := Lib.hid (And.intro (One.mk hgx cx) (One.mk hgy cy))
      have HBW := HB
      obtain ⟨op', hop'⟩ : ∃ o : Int, (bif sub then 1 else 0) = o := ⟨_, rfl⟩
      rw [hop'] at hsuc
      have HP := Lib.hid (And.intro hsuc (And.intro hll (And.intro hsub (And.intro hh3 hop'))))
      have hsz := HB1.out.size
      clear hpx hpy hgx hgy cx cy hsuc hat hll hsub hh3 hop'
      go_upto_region 6 with fail
      go_cut [39] (fun v wx => v = .bool sub ∧ wx = wr)
      case first =>
        by_cases hk3 : k < n3
        · obtain ⟨g3, o3, rfl, hg3, hc3⟩ := (HP.out.2.2.2.1.by HBW.out).at_ hk3
          rw [HP.out.2.2.1] at hc3
          go_wp2
          go_meet
          exact ⟨rfl, rfl⟩
        · have e := HP.out.2.2.2.1.out hk3
          rw [HP.out.2.2.1] at e
          subst e
          go_wp2
          go_meet
          exact ⟨rfl, rfl⟩
      case rest =>
        obtain ⟨rfl, rfl⟩ := hcut
        go_upto_if 39 with fail
        go_cut [12] (fun v wx => v = .int .i64 op' ∧ wx = wc)
        case first =>
          cases sub with
          | true =>
            obtain rfl : 1 = op' := HP.out.2.2.2.2
            go_wp2
            go_meet
            exact ⟨rfl, rfl⟩
          | false =>
            obtain rfl : 0 = op' := HP.out.2.2.2.2
            go_wp2
            go_meet
            exact ⟨rfl, rfl⟩
        case rest =>
          obtain ⟨rfl, rfl⟩ := hcut
          obtain ⟨wr, hwr⟩ : ∃ wr, wr = wc := ⟨_, rfl⟩
          rw [← hwr] at HM HB HBW ⊢
          clear hwr
          go_wp2_with fail
          refine from_table tab_same8 (by kernel_rfl) (by kernel_rfl) (by kernel_rfl) (by kernel_rfl) fun hTab => ?_
          refine from_gen (fun u => Below wr.heap.size wr u) ?_ ?_
          · exact (Below.refl _ _).drew
          intro u hW
          -- operations 0 to 12
          refine from_block' hTab 0 13 (by decide) (by kernel_rfl)
            (fun L a' u => ∃ v40 v41 v42 v43 v44 v45 v46 v47 v48 v49 v50 v51 v52 : Value, a' = ⟨#[Value.slice A n c, .slice (some ⟨gx, ox, none⟩) n1 c1, .slice (some ⟨gy, oy, none⟩) n2 c2, Value.slice A3 n3 c3, undef, undef, undef, undef, .bool false, .pointer (some ⟨w1.heap.size + 1, 0, none⟩), u10, .int .i64 ↑k, .int .i64 op', undef, undef, undef, undef, undef, Value.slice A n c, .agg #[.int .i64 a, .int .i64 b, .int .i64 x, .int .i64 d], .slice (some ⟨w1.heap.size, 0, none⟩) 0 0, u21, u22, u23, u24, u25, u26, u27, u28, u29, u30, u31, u32, u33, u34, u35, u36, u37, u38, u39, v40, v41, v42, v43, v44, v45, v46, v47, v48, v49, v50, v51, v52, u53, undef, undef, undef, undef, undef, undef, undef, undef, undef, undef, undef, undef, undef, undef, undef, undef, undef, undef, undef, undef, undef, undef, undef, undef, undef, undef, undef, undef, undef, undef, undef, undef, undef, undef, undef, undef, undef, undef, undef, undef, undef, undef, undef, undef, undef, undef, undef, undef, undef, undef, undef, undef, undef, undef, undef, undef, undef, undef, undef, undef, undef, undef], []⟩ ∧
              Hid (L 0 = true → v40 = u10) ∧ Hid (L 1 = true → v41 = .int .i64 op') ∧ Hid (L 2 = true → v42 = .slice (some ⟨gx, ox, none⟩) n1 c1) ∧ Hid (L 3 = true → v43 = .int .i64 ↑k) ∧ Hid (L 4 = true → v44 = .pointer (some ⟨gx, ox + k, none⟩)) ∧ Hid (L 5 = true → v45 = .int .i64 px) ∧ Hid (L 6 = true → v46 = .slice (some ⟨gy, oy, none⟩) n2 c2) ∧ Hid (L 7 = true → v47 = .int .i64 ↑k) ∧ Hid (L 8 = true → v48 = .pointer (some ⟨gy, oy + k, none⟩)) ∧ Hid (L 9 = true → v49 = .int .i64 py) ∧ Hid (L 10 = true → v50 = .agg #[.int .i64 px, .int .i64 py]) ∧ Hid (L 11 = true → v51 = .agg #[.int .i64 op', .int .i64 px, .int .i64 py, .int .i64 0, .int .i64 0, .int .i64 0, .int .i64 0, .int .i64 0]) ∧ Hid (L 12 = true → ∃ g52, v52 = .slice (some ⟨g52, 0, none⟩) 1 1 ∧ wr.heap.size ≤ g52 ∧ At u g52 31 [.int .i64 op', .int .i64 px, .int .i64 py, .int .i64 0, .int .i64 0, .int .i64 0, .int .i64 0, .int .i64 0]) ∧ (Below wr.heap.size wr u)) ?_ ?_ ?_
          · exact ⟨_, _, _, _, _, _, _, _, _, _, _, _, _, rfl, (Lib.hid fun h => by cases h), (Lib.hid fun h => by cases h), (Lib.hid fun h => by cases h), (Lib.hid fun h => by cases h), (Lib.hid fun h => by cases h), (Lib.hid fun h => by cases h), (Lib.hid fun h => by cases h), (Lib.hid fun h => by cases h), (Lib.hid fun h => by cases h), (Lib.hid fun h => by cases h), (Lib.hid fun h => by cases h), (Lib.hid fun h => by cases h), (Lib.hid fun h => by cases h), hW⟩
          · clear hW
            intro L a' u i hi1 hi2 hI hL hd
            obtain ⟨v40, v41, v42, v43, v44, v45, v46, v47, v48, v49, v50, v51, v52, rfl, k0, k1, k2, k3, k4, k5, k6, k7, k8, k9, k10, k11, k12, hW⟩ := hI
            obtain rfl | rfl | rfl | rfl | rfl | rfl | rfl | rfl | rfl | rfl | rfl | rfl | rfl := (show ∀ i : Nat, 0 ≤ i → i < 13 → (i = 0 ∨ i = 1 ∨ i = 2 ∨ i = 3 ∨ i = 4 ∨ i = 5 ∨ i = 6 ∨ i = 7 ∨ i = 8 ∨ i = 9 ∨ i = 10 ∨ i = 11 ∨ i = 12) by omega) i hi1 hi2
            · -- operation 0
              have HW := Lib.hid hW
              clear hW hL hd hi1 hi2
              refine wpOp_step rfl fun K hK => ?_
              go_simp
              refine hK _ _ ⟨_, _, _, _, _, _, _, _, _, _, _, _, _, rfl, (Lib.hid fun _ => rfl), k1, k2, k3, k4, k5, k6, k7, k8, k9, k10, k11, k12, HW.out⟩
            · -- operation 1
              have HW := Lib.hid hW
              clear hW hL hd hi1 hi2
              refine wpOp_step rfl fun K hK => ?_
              go_simp
              refine hK _ _ ⟨_, _, _, _, _, _, _, _, _, _, _, _, _, rfl, k0, (Lib.hid fun _ => rfl), k2, k3, k4, k5, k6, k7, k8, k9, k10, k11, k12, HW.out⟩
            · -- operation 2
              have HW := Lib.hid hW
              clear hW hL hd hi1 hi2
              refine wpOp_step rfl fun K hK => ?_
              go_simp
              refine hK _ _ ⟨_, _, _, _, _, _, _, _, _, _, _, _, _, rfl, k0, k1, (Lib.hid fun _ => rfl), k3, k4, k5, k6, k7, k8, k9, k10, k11, k12, HW.out⟩
            · -- operation 3
              have HW := Lib.hid hW
              clear hW hL hd hi1 hi2
              refine wpOp_step rfl fun K hK => ?_
              go_simp
              refine hK _ _ ⟨_, _, _, _, _, _, _, _, _, _, _, _, _, rfl, k0, k1, k2, (Lib.hid fun _ => rfl), k4, k5, k6, k7, k8, k9, k10, k11, k12, HW.out⟩
            · -- operation 4
              obtain rfl := k2.out (hd 2 (by decide))
              obtain rfl := k3.out (hd 3 (by decide))
              have HW := Lib.hid hW
              clear hW hL hd hi1 hi2
              refine wpOp_step rfl fun K hK => ?_
              go_simp
              refine hK _ _ ⟨_, _, _, _, _, _, _, _, _, _, _, _, _, rfl, k0, k1, k2, k3, (Lib.hid fun _ => rfl), k5, k6, k7, k8, k9, k10, k11, k12, HW.out⟩
            · -- operation 5
              obtain rfl := k4.out (hd 4 (by decide))
              have c0 := (HCX.out.1.by (HBW.out.trans (hW.mono HBW.out.size))).2
              have HW := Lib.hid hW
              clear hW hL hd hi1 hi2
              refine wpOp_step rfl fun K hK => ?_
              go_simp
              refine hK _ _ ⟨_, _, _, _, _, _, _, _, _, _, _, _, _, rfl, k0, k1, k2, k3, k4, (Lib.hid fun _ => rfl), k6, k7, k8, k9, k10, k11, k12, HW.out⟩
            · -- operation 6
              have HW := Lib.hid hW
              clear hW hL hd hi1 hi2
              refine wpOp_step rfl fun K hK => ?_
              go_simp
              refine hK _ _ ⟨_, _, _, _, _, _, _, _, _, _, _, _, _, rfl, k0, k1, k2, k3, k4, k5, (Lib.hid fun _ => rfl), k7, k8, k9, k10, k11, k12, HW.out⟩
            · -- operation 7
              have HW := Lib.hid hW
              clear hW hL hd hi1 hi2
              refine wpOp_step rfl fun K hK => ?_
              go_simp
              refine hK _ _ ⟨_, _, _, _, _, _, _, _, _, _, _, _, _, rfl, k0, k1, k2, k3, k4, k5, k6, (Lib.hid fun _ => rfl), k8, k9, k10, k11, k12, HW.out⟩
            · -- operation 8
              obtain rfl := k6.out (hd 6 (by decide))
              obtain rfl := k7.out (hd 7 (by decide))
              have HW := Lib.hid hW
              clear hW hL hd hi1 hi2
              refine wpOp_step rfl fun K hK => ?_
              go_simp
              refine hK _ _ ⟨_, _, _, _, _, _, _, _, _, _, _, _, _, rfl, k0, k1, k2, k3, k4, k5, k6, k7, (Lib.hid fun _ => rfl), k9, k10, k11, k12, HW.out⟩
            · -- operation 9
              obtain rfl := k8.out (hd 8 (by decide))
              have c0 := (HCX.out.2.by (HBW.out.trans (hW.mono HBW.out.size))).2
              have HW := Lib.hid hW
              clear hW hL hd hi1 hi2
              refine wpOp_step rfl fun K hK => ?_
              go_simp
              refine hK _ _ ⟨_, _, _, _, _, _, _, _, _, _, _, _, _, rfl, k0, k1, k2, k3, k4, k5, k6, k7, k8, (Lib.hid fun _ => rfl), k10, k11, k12, HW.out⟩
            · -- operation 10
              obtain rfl := k5.out (hd 5 (by decide))
              obtain rfl := k9.out (hd 9 (by decide))
              have HW := Lib.hid hW
              clear hW hL hd hi1 hi2
              refine wpOp_step rfl fun K hK => ?_
              go_simp
              refine hK _ _ ⟨_, _, _, _, _, _, _, _, _, _, _, _, _, rfl, k0, k1, k2, k3, k4, k5, k6, k7, k8, k9, (Lib.hid fun _ => rfl), k11, k12, HW.out⟩
            · -- operation 11
              obtain rfl := k1.out (hd 1 (by decide))
              obtain rfl := k10.out (hd 10 (by decide))
              have HW := Lib.hid hW
              clear hW hL hd hi1 hi2
              refine wpOp_step rfl fun K hK => ?_
              go_simp
              refine hK _ _ ⟨_, _, _, _, _, _, _, _, _, _, _, _, _, rfl, k0, k1, k2, k3, k4, k5, k6, k7, k8, k9, k10, (Lib.hid fun _ => rfl), k12, HW.out⟩
            · -- operation 12
              obtain rfl := k11.out (hd 11 (by decide))
              have HW := Lib.hid hW
              clear hW hL hd hi1 hi2
              refine wpOp_step rfl fun K hK => ?_
              go_simp
              refine hK _ _ ⟨_, _, _, _, _, _, _, _, _, _, _, _, _, rfl, k0, k1, k2, k3, k4, k5, k6, k7, k8, k9, k10, k11, (Lib.hid fun _ => ⟨_, rfl, HW.out.size, At.new _ _ _⟩), HW.out.trans (((Below.refl _ _).alloc (Nat.le_refl _) _).mono HW.out.size)⟩
          clear hW
          clear u
          intro L a' u hI hall
          obtain ⟨v40, v41, v42, v43, v44, v45, v46, v47, v48, v49, v50, v51, v52, rfl, k0, k1, k2, k3, k4, k5, k6, k7, k8, k9, k10, k11, k12, hW⟩ := hI
          obtain ⟨g52, e52, l52, h52⟩ := k12.out (hall 12 (by decide))
          obtain rfl := k0.out (hall 0 (by decide))
          obtain rfl := k1.out (hall 1 (by decide))
          obtain rfl := k2.out (hall 2 (by decide))
          obtain rfl := k3.out (hall 3 (by decide))
          obtain rfl := k4.out (hall 4 (by decide))
          obtain rfl := k5.out (hall 5 (by decide))
          obtain rfl := k6.out (hall 6 (by decide))
          obtain rfl := k7.out (hall 7 (by decide))
          obtain rfl := k8.out (hall 8 (by decide))
          obtain rfl := k9.out (hall 9 (by decide))
          obtain rfl := k10.out (hall 10 (by decide))
          obtain rfl := k11.out (hall 11 (by decide))
          subst e52
          clear k0 k1 k2 k3 k4 k5 k6 k7 k8 k9 k10 k11 k12 hall L
          refine from_tail hTab 13 (by kernel_rfl) ?_
          show wpOps _ _ _ [13, 14] _ _
          clear hTab
          dsimp only
          have H52 := Lib.hid h52
          have HO := Lib.hid (HM.out.1.by hW)
          have HA := Lib.hid (HM.out.2.by hW)
          have HB8 := Lib.hid (HBW.out.trans (hW.mono HBW.out.size))
          clear h52 hW
          refine wpOps_tail 13 _ rfl rfl ?_
          simp only [List.drop_succ_cons, List.drop_zero]
          go_wp2_with (at_builtin; refine append_step_at rfl (.tmp 40) (.tmp 52) rfl _ w1.heap.size g52 _ _ ⟨op', px, py, 0, ⟨0, 0, 0, 0⟩⟩ rfl HO.out rfl H52.out (by have := HP.out.2.1; omega) (by have := HA.out.lt; omega) ?_; intro v' w5 hown5 hb5 hat5 _)
          go_roundw
          case rel =>
            refine ⟨k + 1, by omega, by go_num, ?_, hat5 _ _ _ (by decide) HA.out, HB8.out.trans (hb5.mono hsz)⟩
            rw [HP.out.1]
            exact hown5
          case measure => simp [intOf]; omega
    · obtain rfl : k = N := by omega
      have hops := addsS_op z1 z2 bs k
      have hlk : (addsS z1 z2 bs k).length = k := addsS_length z1 z2 bs k
      generalize addsS z1 z2 bs k = l at HM hops hlk
      obtain ⟨dx, hdx⟩ : ∃ v, wrap64 (x - a) = v := ⟨_, rfl⟩
      obtain ⟨dy, hdy⟩ : ∃ v, wrap64 (d - b) = v := ⟨_, rfl⟩
      have hlaw : ∀ i, wrap64 ((runS ⟨a, b, x, d⟩ (l.take i)).x1 - (runS ⟨a, b, x, d⟩ (l.take i)).x0) = dx ∧ wrap64 ((runS ⟨a, b, x, d⟩ (l.take i)).y1 - (runS ⟨a, b, x, d⟩ (l.take i)).y0) = dy := by
        intro i
        have := size_law ⟨a, b, x, d⟩ (l.take i) (fun s hs => hops s (List.mem_of_mem_take hs))
        rw [← hdx, ← hdy]
        exact this
      obtain ⟨A10, c10, rfl, hS10⟩ := HM.out.1.form
      rw [hlk]
      have W1' := fun u hu => walk_any a b x d A10 c10 l u hu (by omega)
      rw [hlk] at W1'
      obtain ⟨t0, t1, t2, t3, t4, htell⟩ := telld a b x d a b x d
      rw [hdx, hdy] at htell
      have q0 : IntKind.i64.wrap (x - a) = dx := (i64_wrap _).trans hdx
      have q1 : IntKind.i64.wrap (d - b) = dy := (i64_wrap _).trans hdy
      have HLAW := Lib.hid (And.intro hlaw hlk)
      have HW1 := Lib.hid W1'
      have HTE := Lib.hid htell
      obtain ⟨⟨y0, y1, y2, y3⟩, -⟩ := HM.out.2.four
      have HST := Lib.hid hS10
      have h9lt := HM.out.2.lt
      clear hops hlaw hS10 W1' hlk hdx hdy htell
      go_wp2_with fail
      clear y0 y1 y2 y3 q0 q1
      have hb2 := (Below.refl wr.heap.size wr).alloc (Nat.le_refl _) (.cells #[.int .i64 dx, .int .i64 dy] 29)
      have h13 := At.new wr 29 [.int .i64 dx, .int .i64 dy]
      refine (HW1.out _ (HST.out.by hb2)).mono ?_
      rintro _ w2 ⟨v14, rfl, ho14, hb3⟩
      have hb4 := hb2.trans (hb3.mono hb2.size)
      obtain ⟨A14, c14, rfl, hR14, -⟩ := ho14.form'
      rw [runsS_length]
      have HR14 := Lib.hid hR14
      have HA2 := Lib.hid (And.intro (HM.out.2.by hb4) (h13.by hb3))
      have HB2 := Lib.hid (HB.out.trans (hb4.mono HB.out.size))
      obtain ⟨g9, hg9⟩ : ∃ g9, g9 = w1.heap.size + 1 := ⟨_, rfl⟩
      obtain ⟨g13, hg13⟩ : ∃ g13, g13 = wr.heap.size := ⟨_, rfl⟩
      rw [← hg9, ← hg13] at HA2
      simp only [← hg9, ← hg13]
      clear hb2 h13 hb3 hb4 ho14 hR14 HM HB HW1 HST hg9 hg13
      go_wp2_with fail
      refine from_table tab_same11 (by kernel_rfl) (by kernel_rfl) (by kernel_rfl) (by kernel_rfl) fun hTab => ?_
      refine from_gen (fun u => Below w2.heap.size w2 u) ?_ ?_
      · exact (Below.refl _ _).drew
      intro u hW
      -- operations 0 to 3
      refine from_block' hTab 0 4 (by decide) (by kernel_rfl)
        (fun L a' u => ∃ v68 v69 v70 v71 : Value, a' = ⟨#[Value.slice A n c, Value.slice A1 n1 c1, Value.slice A2 n2 c2, Value.slice A3 n3 c3, undef, undef, undef, undef, .bool false, .pointer (some ⟨g9, 0, none⟩), Value.slice A10 k c10, .int .i64 ↑k, u12, .pointer (some ⟨g13, 0, none⟩), Value.slice A14 k c14, undef, undef, undef, Value.slice A n c, .agg #[.int .i64 a, .int .i64 b, .int .i64 x, .int .i64 d], .slice (some ⟨w1.heap.size, 0, none⟩) 0 0, .int .i64 ↑k, Value.slice A1 n1 c1, .int .i64 ↑n1, Value.slice A2 n2 c2, .int .i64 ↑n2, .int .i64 ↑k, .bool false, u28, u29, u30, u31, u32, u33, u34, u35, u36, u37, u38, u39, u40, u41, u42, u43, u44, u45, u46, u47, u48, u49, u50, u51, u52, u53, .pointer (some ⟨g9, 2, none⟩), .int .i64 x, .pointer (some ⟨g9, 0, none⟩), .int .i64 a, .int .i64 dx, .pointer (some ⟨g9, 3, none⟩), .int .i64 d, .pointer (some ⟨g9, 1, none⟩), .int .i64 b, .int .i64 dy, .agg #[.int .i64 dx, .int .i64 dy], .agg #[.int .i64 a, .int .i64 b, .int .i64 x, .int .i64 d], Value.slice A10 k c10, Value.slice A14 k c14, v68, v69, v70, v71, undef, undef, undef, undef, undef, undef, undef, undef, undef, undef, undef, undef, undef, undef, undef, undef, undef, undef, undef, undef, undef, undef, undef, undef, undef, undef, undef, undef, undef, undef, undef, undef, undef, undef, undef, undef, undef, undef, undef, undef, undef, undef, undef, undef], []⟩ ∧
          Hid (L 0 = true → v68 = Value.slice A14 k c14) ∧ Hid (L 1 = true → v69 = .int .i64 ↑k) ∧ Hid (L 2 = true → v70 = Value.slice A10 k c10) ∧ Hid (L 3 = true → v71 = .int .i64 ↑k) ∧ (Below w2.heap.size w2 u)) ?_ ?_ ?_
      · exact ⟨_, _, _, _, rfl, (Lib.hid fun h => by cases h), (Lib.hid fun h => by cases h), (Lib.hid fun h => by cases h), (Lib.hid fun h => by cases h), hW⟩
      · clear hW
        intro L a' u i hi1 hi2 hI hL hd
        obtain ⟨v68, v69, v70, v71, rfl, k0, k1, k2, k3, hW⟩ := hI
        obtain rfl | rfl | rfl | rfl := (show ∀ i : Nat, 0 ≤ i → i < 4 → (i = 0 ∨ i = 1 ∨ i = 2 ∨ i = 3) by omega) i hi1 hi2
        · -- operation 0
          have HW := Lib.hid hW
          clear hW hL hd hi1 hi2
          refine wpOp_step rfl fun K hK => ?_
          go_simp
          refine hK _ _ ⟨_, _, _, _, rfl, (Lib.hid fun _ => rfl), k1, k2, k3, HW.out⟩
        · -- operation 1
          obtain rfl := k0.out (hd 0 (by decide))
          have HW := Lib.hid hW
          clear hW hL hd hi1 hi2
          refine wpOp_step rfl fun K hK => ?_
          go_simp
          refine hK _ _ ⟨_, _, _, _, rfl, k0, (Lib.hid fun _ => rfl), k2, k3, HW.out⟩
        · -- operation 2
          have HW := Lib.hid hW
          clear hW hL hd hi1 hi2
          refine wpOp_step rfl fun K hK => ?_
          go_simp
          refine hK _ _ ⟨_, _, _, _, rfl, k0, k1, (Lib.hid fun _ => rfl), k3, HW.out⟩
        · -- operation 3
          obtain rfl := k2.out (hd 2 (by decide))
          have HW := Lib.hid hW
          clear hW hL hd hi1 hi2
          refine wpOp_step rfl fun K hK => ?_
          go_simp
          refine hK _ _ ⟨_, _, _, _, rfl, k0, k1, k2, (Lib.hid fun _ => rfl), HW.out⟩
      clear hW
      clear u
      intro L a' u hI hall
      obtain ⟨v68, v69, v70, v71, rfl, k0, k1, k2, k3, hW⟩ := hI
      obtain rfl := k0.out (hall 0 (by decide))
      obtain rfl := k1.out (hall 1 (by decide))
      obtain rfl := k2.out (hall 2 (by decide))
      obtain rfl := k3.out (hall 3 (by decide))
      clear k0 k1 k2 k3 hall L
      -- operation 4 alone
      refine from_one' hTab 4 (by kernel_rfl) ?_
      have HW := Lib.hid hW
      clear hW
      refine wpOp_step rfl fun K hK => ?_
      go_simp
      refine hK _ _ ?_
      clear hK K
      have hW := HW.out
      clear HW
      -- operation 5 alone
      refine from_one' hTab 5 (by kernel_rfl) ?_
      have HW := Lib.hid hW
      clear hW
      refine wpOp_step rfl fun K hK => ?_
      go_simp
      refine hK _ _ ?_
      clear hK K
      have hW := HW.out
      clear HW
      -- operations 6 to 11
      refine from_block' hTab 6 12 (by decide) (by kernel_rfl)
        (fun L a' u => ∃ v74 v75 v76 v77 v78 v79 : Value, a' = ⟨#[Value.slice A n c, Value.slice A1 n1 c1, Value.slice A2 n2 c2, Value.slice A3 n3 c3, undef, undef, undef, undef, .bool false, .pointer (some ⟨g9, 0, none⟩), Value.slice A10 k c10, .int .i64 ↑k, u12, .pointer (some ⟨g13, 0, none⟩), Value.slice A14 k c14, undef, undef, undef, Value.slice A n c, .agg #[.int .i64 a, .int .i64 b, .int .i64 x, .int .i64 d], .slice (some ⟨w1.heap.size, 0, none⟩) 0 0, .int .i64 ↑k, Value.slice A1 n1 c1, .int .i64 ↑n1, Value.slice A2 n2 c2, .int .i64 ↑n2, .int .i64 ↑k, .bool false, u28, u29, u30, u31, u32, u33, u34, u35, u36, u37, u38, u39, u40, u41, u42, u43, u44, u45, u46, u47, u48, u49, u50, u51, u52, u53, .pointer (some ⟨g9, 2, none⟩), .int .i64 x, .pointer (some ⟨g9, 0, none⟩), .int .i64 a, .int .i64 dx, .pointer (some ⟨g9, 3, none⟩), .int .i64 d, .pointer (some ⟨g9, 1, none⟩), .int .i64 b, .int .i64 dy, .agg #[.int .i64 dx, .int .i64 dy], .agg #[.int .i64 a, .int .i64 b, .int .i64 x, .int .i64 d], Value.slice A10 k c10, Value.slice A14 k c14, Value.slice A14 k c14, .int .i64 ↑k, Value.slice A10 k c10, .int .i64 ↑k, .bool false, .bool false, v74, v75, v76, v77, v78, v79, undef, undef, undef, undef, undef, undef, undef, undef, undef, undef, undef, undef, undef, undef, undef, undef, undef, undef, undef, undef, undef, undef, undef, undef, undef, undef, undef, undef, undef, undef, undef, undef, undef, undef, undef, undef], []⟩ ∧
          Hid (L 6 = true → v74 = .agg #[.int .i64 0, .int .i64 0]) ∧ Hid (L 7 = true → v75 = .agg #[.int .i64 a, .int .i64 b, .int .i64 x, .int .i64 d]) ∧ Hid (L 8 = true → v76 = .agg #[.int .i64 a, .int .i64 b, .int .i64 x, .int .i64 d]) ∧ Hid (L 9 = true → v77 = .agg #[.bool t0, .bool t1, .bool t2, .bool t3, .bool t4, .int .i64 dx, .int .i64 dy]) ∧ Hid (L 10 = true → v78 = .agg #[.int .i64 dx, .int .i64 dy]) ∧ Hid (L 11 = true → v79 = .agg #[.int .i64 dx, .int .i64 dy]) ∧ (Below w2.heap.size w2 u)) ?_ ?_ ?_
      · exact ⟨_, _, _, _, _, _, rfl, (Lib.hid fun h => by cases h), (Lib.hid fun h => by cases h), (Lib.hid fun h => by cases h), (Lib.hid fun h => by cases h), (Lib.hid fun h => by cases h), (Lib.hid fun h => by cases h), hW⟩
      · clear hW
        intro L a' u i hi1 hi2 hI hL hd
        obtain ⟨v74, v75, v76, v77, v78, v79, rfl, k6, k7, k8, k9, k10, k11, hW⟩ := hI
        obtain rfl | rfl | rfl | rfl | rfl | rfl := (show ∀ i : Nat, 6 ≤ i → i < 12 → (i = 6 ∨ i = 7 ∨ i = 8 ∨ i = 9 ∨ i = 10 ∨ i = 11) by omega) i hi1 hi2
        · -- operation 6
          have HW := Lib.hid hW
          clear hW hL hd hi1 hi2
          refine wpOp_step rfl fun K hK => ?_
          go_simp
          refine hK _ _ ⟨_, _, _, _, _, _, rfl, (Lib.hid fun _ => rfl), k7, k8, k9, k10, k11, HW.out⟩
        · -- operation 7
          obtain ⟨c0, c1, c2, c3⟩ := (HA2.out.1.by hW).four.1
          have HW := Lib.hid hW
          clear hW hL hd hi1 hi2
          refine wpOp_step rfl fun K hK => ?_
          go_simp
          refine hK _ _ ⟨_, _, _, _, _, _, rfl, k6, (Lib.hid fun _ => rfl), k8, k9, k10, k11, HW.out⟩
        · -- operation 8
          obtain ⟨c0, c1, c2, c3⟩ := (HA2.out.1.by hW).four.1
          have HW := Lib.hid hW
          clear hW hL hd hi1 hi2
          refine wpOp_step rfl fun K hK => ?_
          go_simp
          refine hK _ _ ⟨_, _, _, _, _, _, rfl, k6, k7, (Lib.hid fun _ => rfl), k9, k10, k11, HW.out⟩
        · -- operation 9
          obtain rfl := k6.out (hd 6 (by decide))
          obtain rfl := k7.out (hd 7 (by decide))
          obtain rfl := k8.out (hd 8 (by decide))
          have HW := Lib.hid hW
          clear hW hL hd hi1 hi2
          refine wpOp_step rfl fun K hK => ?_
          go_simp
          go_at_call 37
          refine (HTE.out _).mono ?_
          rintro _ w' ⟨rfl, hb⟩
          refine hK _ _ ⟨_, _, _, _, _, _, rfl, k6, k7, k8, (Lib.hid fun _ => rfl), k10, k11, HW.out.trans (hb.mono HW.out.size)⟩
        · -- operation 10
          obtain rfl := k9.out (hd 9 (by decide))
          have HW := Lib.hid hW
          clear hW hL hd hi1 hi2
          refine wpOp_step rfl fun K hK => ?_
          go_simp
          refine hK _ _ ⟨_, _, _, _, _, _, rfl, k6, k7, k8, k9, (Lib.hid fun _ => rfl), k11, HW.out⟩
        · -- operation 11
          obtain ⟨c0, c1⟩ := (HA2.out.2.by hW).two.1
          have HW := Lib.hid hW
          clear hW hL hd hi1 hi2
          refine wpOp_step rfl fun K hK => ?_
          go_simp
          refine hK _ _ ⟨_, _, _, _, _, _, rfl, k6, k7, k8, k9, k10, (Lib.hid fun _ => rfl), HW.out⟩
      clear hW
      clear u
      intro L a' u hI hall
      obtain ⟨v74, v75, v76, v77, v78, v79, rfl, k6, k7, k8, k9, k10, k11, hW⟩ := hI
      obtain rfl := k6.out (hall 6 (by decide))
      obtain rfl := k7.out (hall 7 (by decide))
      obtain rfl := k8.out (hall 8 (by decide))
      obtain rfl := k9.out (hall 9 (by decide))
      obtain rfl := k10.out (hall 10 (by decide))
      obtain rfl := k11.out (hall 11 (by decide))
      clear k6 k7 k8 k9 k10 k11 hall L
      -- operation 12 alone
      refine from_one' hTab 12 (by kernel_rfl) ?_
      have HW := Lib.hid hW
      clear hW
      refine wpOp_step rfl fun K hK => ?_
      go_simp
      refine hK _ _ ?_
      clear hK K
      have hW := HW.out
      clear HW
      -- operation 13 alone
      refine from_one' hTab 13 (by kernel_rfl) ?_
      have HW := Lib.hid hW
      clear hW
      refine wpOp_step rfl fun K hK => ?_
      go_simp
      refine hK _ _ ?_
      clear hK K
      have hW := HW.out
      clear HW
      refine from_end' hTab 14 (by kernel_rfl) ?_
      clear hTab
      have HB3 := Lib.hid (HB2.out.trans (hW.mono HB2.out.size))
      have HR3 := Lib.hid (HR14.out.by hW)
      have H13 := Lib.hid (HA2.out.2.by hW)
      obtain ⟨w3, hw3⟩ : ∃ w3, w3 = u := ⟨_, rfl⟩
      rw [← hw3] at HB3 HR3 H13 ⊢
      clear hw3 hW HA2 HB2 HR14 HTE
      go_wp2
      go_loopw [84] (fun i wr => ∃ j : Nat, j ≤ k ∧ i = .int .i64 j ∧ Below w3.heap.size w3 wr) (fun i _ => k - (intOf i).toNat)
      case atStart => exact ⟨0, Nat.zero_le _, rfl, Below.refl _ _⟩
      case round =>
        obtain ⟨j, hj, rfl, hbel⟩ := hrel
        have HB4 := Lib.hid hbel
        clear hbel
        by_cases hlt : j < k
        · obtain ⟨g14, o14, rfl, hg14⟩ := (HR3.out.by HB4.out).addr (by rw [runsS_length]; omega)
          obtain ⟨⟨p, q, s, t⟩, hr⟩ : ∃ v : R, runS ⟨a, b, x, d⟩ (l.take (j + 1)) = v := ⟨_, rfl⟩
          have hget := (runsS_get ⟨a, b, x, d⟩ l k j hlt).trans hr
          obtain ⟨y0, y1, y2, y3⟩ := (HR3.out.by HB4.out).cells (i := j) (by rw [runsS_length]; exact hlt) hget
          have hsz := HLAW.out.1 (j + 1)
          rw [hr] at hsz
          dsimp only at hsz
          obtain ⟨t0', t1', t2', t3', t4', htell⟩ := telld p q s t p q s t
          obtain ⟨s0, s1, s2, s3, s4, htell2⟩ := telld q p t s p q s t
          rw [hsz.1, hsz.2] at htell htell2
          have HT1 := Lib.hid htell
          have HT2 := Lib.hid htell2
          clear hr hget hsz htell htell2
          go_wp2_with fail
          clear y0 y1 y2 y3
          refine from_table tab_same16 (by kernel_rfl) (by kernel_rfl) (by kernel_rfl) (by kernel_rfl) fun hTab => ?_
          refine from_gen (fun u => At u wr.heap.size 25 [.int .i64 p, .int .i64 q, .int .i64 s, .int .i64 t] ∧ Below wr.heap.size wr u) ?_ ?_
          · refine ⟨?_, ?_⟩
            · (repeat first | exact At.new' _ _ _ (by first | rfl | (simp only [size_alloc])) | refine At.drew ?_ | refine At.alloc ?_ _)
            · (repeat first | exact Below.refl _ _ | refine Below.drew ?_ | refine Below.alloc ?_ (by first | exact Nat.le_refl _ | (simp only [size_alloc]; omega)) _)
          intro u hW
          -- operations 0 to 6
          refine from_block' hTab 0 7 (by decide) (by kernel_rfl)
            (fun L a' u => ∃ v17 v88 v89 v90 v91 v92 v93 : Value, a' = ⟨#[Value.slice A n c, Value.slice A1 n1 c1, Value.slice A2 n2 c2, Value.slice A3 n3 c3, undef, undef, undef, undef, u8, .pointer (some ⟨g9, 0, none⟩), Value.slice A10 k c10, .int .i64 ↑k, u12, .pointer (some ⟨g13, 0, none⟩), .slice (some ⟨g14, o14, none⟩) k c14, undef, .pointer (some ⟨wr.heap.size, 0, none⟩), v17, Value.slice A n c, .agg #[.int .i64 a, .int .i64 b, .int .i64 x, .int .i64 d], .slice (some ⟨w1.heap.size, 0, none⟩) 0 0, .int .i64 ↑k, Value.slice A1 n1 c1, .int .i64 ↑n1, Value.slice A2 n2 c2, .int .i64 ↑n2, .int .i64 ↑k, .bool false, u28, u29, u30, u31, u32, u33, u34, u35, u36, u37, u38, u39, u40, u41, u42, u43, u44, u45, u46, u47, u48, u49, u50, u51, u52, u53, .pointer (some ⟨g9, 2, none⟩), .int .i64 x, .pointer (some ⟨g9, 0, none⟩), .int .i64 a, .int .i64 dx, .pointer (some ⟨g9, 3, none⟩), .int .i64 d, .pointer (some ⟨g9, 1, none⟩), .int .i64 b, .int .i64 dy, .agg #[.int .i64 dx, .int .i64 dy], .agg #[.int .i64 a, .int .i64 b, .int .i64 x, .int .i64 d], Value.slice A10 k c10, .slice (some ⟨g14, o14, none⟩) k c14, .slice (some ⟨g14, o14, none⟩) k c14, .int .i64 ↑k, Value.slice A10 k c10, .int .i64 ↑k, .bool false, .bool false, .agg #[.int .i64 0, .int .i64 0], .agg #[.int .i64 a, .int .i64 b, .int .i64 x, .int .i64 d], .agg #[.int .i64 a, .int .i64 b, .int .i64 x, .int .i64 d], .agg #[.bool t0, .bool t1, .bool t2, .bool t3, .bool t4, .int .i64 dx, .int .i64 dy], .agg #[.int .i64 dx, .int .i64 dy], .agg #[.int .i64 dx, .int .i64 dy], .bool false, .bool false, .slice (some ⟨g14, o14, none⟩) k c14, .int .i64 ↑k, .int .i64 ↑j, .bool true, .pointer (some ⟨g14, o14 + j * 4, none⟩), .agg #[.int .i64 p, .int .i64 q, .int .i64 s, .int .i64 t], v88, v89, v90, v91, v92, v93, u94, u95, u96, u97, u98, u99, u100, u101, u102, u103, u104, u105, u106, u107, u108, u109, u110, u111, u112, u113, u114, u115], []⟩ ∧
              Hid (L 0 = true → v88 = .agg #[.int .i64 0, .int .i64 0]) ∧ Hid (L 1 = true → v89 = .agg #[.int .i64 p, .int .i64 q, .int .i64 s, .int .i64 t]) ∧ Hid (L 2 = true → v90 = .agg #[.int .i64 q, .int .i64 p, .int .i64 t, .int .i64 s]) ∧ Hid (L 3 = true → v91 = .agg #[.int .i64 p, .int .i64 q, .int .i64 s, .int .i64 t]) ∧ Hid (L 4 = true → v92 = .agg #[.bool s0, .bool s1, .bool s2, .bool s3, .bool s4, .int .i64 dy, .int .i64 dx]) ∧ Hid (L 5 = true → v93 = .agg #[.int .i64 dy, .int .i64 dx]) ∧ Hid (L 6 = true → ∃ g17, v17 = .pointer (some ⟨g17, 0, none⟩) ∧ (wr.heap.size + 1) ≤ g17 ∧ At u g17 29 [.int .i64 0, .int .i64 0]) ∧ (At u wr.heap.size 25 [.int .i64 p, .int .i64 q, .int .i64 s, .int .i64 t] ∧ Below wr.heap.size wr u)) ?_ ?_ ?_
          · exact ⟨_, _, _, _, _, _, _, rfl, (Lib.hid fun h => by cases h), (Lib.hid fun h => by cases h), (Lib.hid fun h => by cases h), (Lib.hid fun h => by cases h), (Lib.hid fun h => by cases h), (Lib.hid fun h => by cases h), (Lib.hid fun h => by cases h), hW⟩
          · clear hW
            intro L a' u i hi1 hi2 hI hL hd
            obtain ⟨v17, v88, v89, v90, v91, v92, v93, rfl, k0, k1, k2, k3, k4, k5, k6, hW⟩ := hI
            obtain rfl | rfl | rfl | rfl | rfl | rfl | rfl := (show ∀ i : Nat, 0 ≤ i → i < 7 → (i = 0 ∨ i = 1 ∨ i = 2 ∨ i = 3 ∨ i = 4 ∨ i = 5 ∨ i = 6) by omega) i hi1 hi2
            · -- operation 0
              have HW := Lib.hid hW
              clear hW hL hd hi1 hi2
              refine wpOp_step rfl fun K hK => ?_
              go_simp
              refine hK _ _ ⟨_, _, _, _, _, _, _, rfl, (Lib.hid fun _ => rfl), k1, k2, k3, k4, k5, k6, HW.out⟩
            · -- operation 1
              obtain ⟨c0, c1, c2, c3⟩ := hW.1.four.1
              have HW := Lib.hid hW
              clear hW hL hd hi1 hi2
              refine wpOp_step rfl fun K hK => ?_
              go_simp
              refine hK _ _ ⟨_, _, _, _, _, _, _, rfl, k0, (Lib.hid fun _ => rfl), k2, k3, k4, k5, k6, HW.out⟩
            · -- operation 2
              obtain rfl := k1.out (hd 1 (by decide))
              have HW := Lib.hid hW
              clear hW hL hd hi1 hi2
              refine wpOp_step rfl fun K hK => ?_
              go_simp
              go_at_call 27
              refine (turned_any _ _ _ _ _).mono ?_
              rintro _ w' ⟨rfl, hb⟩
              refine hK _ _ ⟨_, _, _, _, _, _, _, rfl, k0, k1, (Lib.hid fun _ => rfl), k3, k4, k5, (Lib.hid fun hl => ?_), ⟨HW.out.1.by hb, HW.out.2.trans (hb.mono HW.out.2.size)⟩⟩
              · obtain ⟨gg, eg, lg, hg⟩ := k6.out hl
                exact ⟨gg, eg, lg, hg.by hb⟩
            · -- operation 3
              obtain ⟨c0, c1, c2, c3⟩ := hW.1.four.1
              have HW := Lib.hid hW
              clear hW hL hd hi1 hi2
              refine wpOp_step rfl fun K hK => ?_
              go_simp
              refine hK _ _ ⟨_, _, _, _, _, _, _, rfl, k0, k1, k2, (Lib.hid fun _ => rfl), k4, k5, k6, HW.out⟩
            · -- operation 4
              obtain rfl := k0.out (hd 0 (by decide))
              obtain rfl := k2.out (hd 2 (by decide))
              obtain rfl := k3.out (hd 3 (by decide))
              have HW := Lib.hid hW
              clear hW hL hd hi1 hi2
              refine wpOp_step rfl fun K hK => ?_
              go_simp
              go_at_call 37
              refine (HT2.out _).mono ?_
              rintro _ w' ⟨rfl, hb⟩
              refine hK _ _ ⟨_, _, _, _, _, _, _, rfl, k0, k1, k2, k3, (Lib.hid fun _ => rfl), k5, (Lib.hid fun hl => ?_), ⟨HW.out.1.by hb, HW.out.2.trans (hb.mono HW.out.2.size)⟩⟩
              · obtain ⟨gg, eg, lg, hg⟩ := k6.out hl
                exact ⟨gg, eg, lg, hg.by hb⟩
            · -- operation 5
              obtain rfl := k4.out (hd 4 (by decide))
              have HW := Lib.hid hW
              clear hW hL hd hi1 hi2
              refine wpOp_step rfl fun K hK => ?_
              go_simp
              refine hK _ _ ⟨_, _, _, _, _, _, _, rfl, k0, k1, k2, k3, k4, (Lib.hid fun _ => rfl), k6, HW.out⟩
            · -- operation 6
              have HW := Lib.hid hW
              clear hW hL hd hi1 hi2
              refine wpOp_step rfl fun K hK => ?_
              go_simp
              refine hK _ _ ⟨_, _, _, _, _, _, _, rfl, k0, k1, k2, k3, k4, k5, (Lib.hid fun _ => ⟨_, rfl, (by have := HW.out.1.lt; omega), At.new _ _ _⟩), ⟨HW.out.1.by ((Below.refl _ _).alloc (Nat.le_refl _) _), HW.out.2.trans (((Below.refl _ _).alloc (Nat.le_refl _) _).mono HW.out.2.size)⟩⟩
          clear hW
          clear u
          intro L a' u hI hall
          obtain ⟨v17, v88, v89, v90, v91, v92, v93, rfl, k0, k1, k2, k3, k4, k5, k6, hW⟩ := hI
          obtain ⟨g17, e17, l17, h17⟩ := k6.out (hall 6 (by decide))
          obtain rfl := k0.out (hall 0 (by decide))
          obtain rfl := k1.out (hall 1 (by decide))
          obtain rfl := k2.out (hall 2 (by decide))
          obtain rfl := k3.out (hall 3 (by decide))
          obtain rfl := k4.out (hall 4 (by decide))
          obtain rfl := k5.out (hall 5 (by decide))
          subst e17
          clear k0 k1 k2 k3 k4 k5 k6 hall L
          refine from_tail hTab 7 (by kernel_rfl) ?_
          show wpOps _ _ _ [7] _ _
          clear hTab
          dsimp only
          obtain ⟨⟨c0, c1⟩, d0, d1⟩ := h17.two
          have H17 := Lib.hid h17
          have HW := Lib.hid hW
          clear h17 hW
          refine wpOps_tail 7 _ rfl rfl ?_
          simp only [List.drop_succ_cons, List.drop_zero]
          go_wp2_with fail
          clear c0 c1 d0 d1
          have hset := H17.out.set2 (.int .i64 dy) (.int .i64 dx)
          have hAt := HW.out.1.far (p := ⟨g17, 0, none⟩) (show _ ≠ g17 by omega) (.int .i64 dy) |>.far (p := ⟨g17, 1, none⟩) (show _ ≠ g17 by omega) (.int .i64 dx)
          have hBel := (HW.out.2.setCell (p := ⟨g17, 0, none⟩) (show wr.heap.size ≤ g17 by omega) (.int .i64 dy)).setCell (p := ⟨g17, 1, none⟩) (show wr.heap.size ≤ g17 by omega) (.int .i64 dx)
          have HV := Lib.hid (And.intro hset (And.intro hAt hBel))
          clear hset hAt hBel HW H17
          refine from_table tab_same17 (by kernel_rfl) (by kernel_rfl) (by kernel_rfl) (by kernel_rfl) fun hTab => ?_
          refine from_gen (fun u => At u g17 29 [.int .i64 dy, .int .i64 dx] ∧ At u wr.heap.size 25 [.int .i64 p, .int .i64 q, .int .i64 s, .int .i64 t] ∧ Below wr.heap.size wr u) ?_ ?_
          · exact ⟨HV.out.1.drew, HV.out.2.1.drew, HV.out.2.2.drew⟩
          intro u hW
          -- operations 0 to 5
          refine from_block' hTab 0 6 (by decide) (by kernel_rfl)
            (fun L a' u => ∃ v94 v95 v96 v97 v98 v99 : Value, a' = ⟨#[Value.slice A n c, Value.slice A1 n1 c1, Value.slice A2 n2 c2, Value.slice A3 n3 c3, undef, undef, undef, undef, u8, .pointer (some ⟨g9, 0, none⟩), Value.slice A10 k c10, .int .i64 ↑k, u12, .pointer (some ⟨g13, 0, none⟩), .slice (some ⟨g14, o14, none⟩) k c14, undef, .pointer (some ⟨wr.heap.size, 0, none⟩), .pointer (some ⟨g17, 0, none⟩), Value.slice A n c, .agg #[.int .i64 a, .int .i64 b, .int .i64 x, .int .i64 d], .slice (some ⟨w1.heap.size, 0, none⟩) 0 0, .int .i64 ↑k, Value.slice A1 n1 c1, .int .i64 ↑n1, Value.slice A2 n2 c2, .int .i64 ↑n2, .int .i64 ↑k, .bool false, u28, u29, u30, u31, u32, u33, u34, u35, u36, u37, u38, u39, u40, u41, u42, u43, u44, u45, u46, u47, u48, u49, u50, u51, u52, u53, .pointer (some ⟨g9, 2, none⟩), .int .i64 x, .pointer (some ⟨g9, 0, none⟩), .int .i64 a, .int .i64 dx, .pointer (some ⟨g9, 3, none⟩), .int .i64 d, .pointer (some ⟨g9, 1, none⟩), .int .i64 b, .int .i64 dy, .agg #[.int .i64 dx, .int .i64 dy], .agg #[.int .i64 a, .int .i64 b, .int .i64 x, .int .i64 d], Value.slice A10 k c10, .slice (some ⟨g14, o14, none⟩) k c14, .slice (some ⟨g14, o14, none⟩) k c14, .int .i64 ↑k, Value.slice A10 k c10, .int .i64 ↑k, .bool false, .bool false, .agg #[.int .i64 0, .int .i64 0], .agg #[.int .i64 a, .int .i64 b, .int .i64 x, .int .i64 d], .agg #[.int .i64 a, .int .i64 b, .int .i64 x, .int .i64 d], .agg #[.bool t0, .bool t1, .bool t2, .bool t3, .bool t4, .int .i64 dx, .int .i64 dy], .agg #[.int .i64 dx, .int .i64 dy], .agg #[.int .i64 dx, .int .i64 dy], .bool false, .bool false, .slice (some ⟨g14, o14, none⟩) k c14, .int .i64 ↑k, .int .i64 ↑j, .bool true, .pointer (some ⟨g14, o14 + j * 4, none⟩), .agg #[.int .i64 p, .int .i64 q, .int .i64 s, .int .i64 t], .agg #[.int .i64 0, .int .i64 0], .agg #[.int .i64 p, .int .i64 q, .int .i64 s, .int .i64 t], .agg #[.int .i64 q, .int .i64 p, .int .i64 t, .int .i64 s], .agg #[.int .i64 p, .int .i64 q, .int .i64 s, .int .i64 t], .agg #[.bool s0, .bool s1, .bool s2, .bool s3, .bool s4, .int .i64 dy, .int .i64 dx], .agg #[.int .i64 dy, .int .i64 dx], v94, v95, v96, v97, v98, v99, u100, u101, u102, u103, u104, u105, u106, u107, u108, u109, u110, u111, u112, u113, u114, u115], []⟩ ∧
              Hid (L 0 = true → v94 = .agg #[.int .i64 0, .int .i64 0]) ∧ Hid (L 1 = true → v95 = .agg #[.int .i64 p, .int .i64 q, .int .i64 s, .int .i64 t]) ∧ Hid (L 2 = true → v96 = .agg #[.int .i64 p, .int .i64 q, .int .i64 s, .int .i64 t]) ∧ Hid (L 3 = true → v97 = .agg #[.bool t0', .bool t1', .bool t2', .bool t3', .bool t4', .int .i64 dx, .int .i64 dy]) ∧ Hid (L 4 = true → v98 = .agg #[.int .i64 dx, .int .i64 dy]) ∧ Hid (L 5 = true → v99 = .agg #[.int .i64 dx, .int .i64 dy]) ∧ (At u g17 29 [.int .i64 dy, .int .i64 dx] ∧ At u wr.heap.size 25 [.int .i64 p, .int .i64 q, .int .i64 s, .int .i64 t] ∧ Below wr.heap.size wr u)) ?_ ?_ ?_
          · exact ⟨_, _, _, _, _, _, rfl, (Lib.hid fun h => by cases h), (Lib.hid fun h => by cases h), (Lib.hid fun h => by cases h), (Lib.hid fun h => by cases h), (Lib.hid fun h => by cases h), (Lib.hid fun h => by cases h), hW⟩
          · clear hW
            intro L a' u i hi1 hi2 hI hL hd
            obtain ⟨v94, v95, v96, v97, v98, v99, rfl, k0, k1, k2, k3, k4, k5, hW⟩ := hI
            obtain rfl | rfl | rfl | rfl | rfl | rfl := (show ∀ i : Nat, 0 ≤ i → i < 6 → (i = 0 ∨ i = 1 ∨ i = 2 ∨ i = 3 ∨ i = 4 ∨ i = 5) by omega) i hi1 hi2
            · -- operation 0
              have HW := Lib.hid hW
              clear hW hL hd hi1 hi2
              refine wpOp_step rfl fun K hK => ?_
              go_simp
              refine hK _ _ ⟨_, _, _, _, _, _, rfl, (Lib.hid fun _ => rfl), k1, k2, k3, k4, k5, HW.out⟩
            · -- operation 1
              obtain ⟨c0, c1, c2, c3⟩ := hW.2.1.four.1
              have HW := Lib.hid hW
              clear hW hL hd hi1 hi2
              refine wpOp_step rfl fun K hK => ?_
              go_simp
              refine hK _ _ ⟨_, _, _, _, _, _, rfl, k0, (Lib.hid fun _ => rfl), k2, k3, k4, k5, HW.out⟩
            · -- operation 2
              obtain ⟨c0, c1, c2, c3⟩ := hW.2.1.four.1
              have HW := Lib.hid hW
              clear hW hL hd hi1 hi2
              refine wpOp_step rfl fun K hK => ?_
              go_simp
              refine hK _ _ ⟨_, _, _, _, _, _, rfl, k0, k1, (Lib.hid fun _ => rfl), k3, k4, k5, HW.out⟩
            · -- operation 3
              obtain rfl := k0.out (hd 0 (by decide))
              obtain rfl := k1.out (hd 1 (by decide))
              obtain rfl := k2.out (hd 2 (by decide))
              have HW := Lib.hid hW
              clear hW hL hd hi1 hi2
              refine wpOp_step rfl fun K hK => ?_
              go_simp
              go_at_call 37
              refine (HT1.out _).mono ?_
              rintro _ w' ⟨rfl, hb⟩
              refine hK _ _ ⟨_, _, _, _, _, _, rfl, k0, k1, k2, (Lib.hid fun _ => rfl), k4, k5, ⟨HW.out.1.by hb, HW.out.2.1.by hb, HW.out.2.2.trans (hb.mono HW.out.2.2.size)⟩⟩
            · -- operation 4
              obtain rfl := k3.out (hd 3 (by decide))
              have HW := Lib.hid hW
              clear hW hL hd hi1 hi2
              refine wpOp_step rfl fun K hK => ?_
              go_simp
              refine hK _ _ ⟨_, _, _, _, _, _, rfl, k0, k1, k2, k3, (Lib.hid fun _ => rfl), k5, HW.out⟩
            · -- operation 5
              obtain ⟨c0, c1⟩ := (H13.out.by (HB4.out.trans (hW.2.2.mono HB4.out.size))).two.1
              have HW := Lib.hid hW
              clear hW hL hd hi1 hi2
              refine wpOp_step rfl fun K hK => ?_
              go_simp
              refine hK _ _ ⟨_, _, _, _, _, _, rfl, k0, k1, k2, k3, k4, (Lib.hid fun _ => rfl), HW.out⟩
          clear hW
          clear u
          intro L a' u hI hall
          obtain ⟨v94, v95, v96, v97, v98, v99, rfl, k0, k1, k2, k3, k4, k5, hW⟩ := hI
          obtain rfl := k0.out (hall 0 (by decide))
          obtain rfl := k1.out (hall 1 (by decide))
          obtain rfl := k2.out (hall 2 (by decide))
          obtain rfl := k3.out (hall 3 (by decide))
          obtain rfl := k4.out (hall 4 (by decide))
          obtain rfl := k5.out (hall 5 (by decide))
          clear k0 k1 k2 k3 k4 k5 hall L
          -- operation 6 alone
          refine from_one' hTab 6 (by kernel_rfl) ?_
          have HW := Lib.hid hW
          clear hW
          refine wpOp_step rfl fun K hK => ?_
          go_simp
          refine hK _ _ ?_
          clear hK K
          have hW := HW.out
          clear HW
          -- operation 7 alone
          refine from_one' hTab 7 (by kernel_rfl) ?_
          have HW := Lib.hid hW
          clear hW
          refine wpOp_step rfl fun K hK => ?_
          go_simp
          refine hK _ _ ?_
          clear hK K
          have hW := HW.out
          clear HW
          -- operations 8 to 11
          refine from_block' hTab 8 12 (by decide) (by kernel_rfl)
            (fun L a' u => ∃ v102 v103 v104 v105 : Value, a' = ⟨#[Value.slice A n c, Value.slice A1 n1 c1, Value.slice A2 n2 c2, Value.slice A3 n3 c3, undef, undef, undef, undef, u8, .pointer (some ⟨g9, 0, none⟩), Value.slice A10 k c10, .int .i64 ↑k, u12, .pointer (some ⟨g13, 0, none⟩), .slice (some ⟨g14, o14, none⟩) k c14, undef, .pointer (some ⟨wr.heap.size, 0, none⟩), .pointer (some ⟨g17, 0, none⟩), Value.slice A n c, .agg #[.int .i64 a, .int .i64 b, .int .i64 x, .int .i64 d], .slice (some ⟨w1.heap.size, 0, none⟩) 0 0, .int .i64 ↑k, Value.slice A1 n1 c1, .int .i64 ↑n1, Value.slice A2 n2 c2, .int .i64 ↑n2, .int .i64 ↑k, .bool false, u28, u29, u30, u31, u32, u33, u34, u35, u36, u37, u38, u39, u40, u41, u42, u43, u44, u45, u46, u47, u48, u49, u50, u51, u52, u53, .pointer (some ⟨g9, 2, none⟩), .int .i64 x, .pointer (some ⟨g9, 0, none⟩), .int .i64 a, .int .i64 dx, .pointer (some ⟨g9, 3, none⟩), .int .i64 d, .pointer (some ⟨g9, 1, none⟩), .int .i64 b, .int .i64 dy, .agg #[.int .i64 dx, .int .i64 dy], .agg #[.int .i64 a, .int .i64 b, .int .i64 x, .int .i64 d], Value.slice A10 k c10, .slice (some ⟨g14, o14, none⟩) k c14, .slice (some ⟨g14, o14, none⟩) k c14, .int .i64 ↑k, Value.slice A10 k c10, .int .i64 ↑k, .bool false, .bool false, .agg #[.int .i64 0, .int .i64 0], .agg #[.int .i64 a, .int .i64 b, .int .i64 x, .int .i64 d], .agg #[.int .i64 a, .int .i64 b, .int .i64 x, .int .i64 d], .agg #[.bool t0, .bool t1, .bool t2, .bool t3, .bool t4, .int .i64 dx, .int .i64 dy], .agg #[.int .i64 dx, .int .i64 dy], .agg #[.int .i64 dx, .int .i64 dy], .bool false, .bool false, .slice (some ⟨g14, o14, none⟩) k c14, .int .i64 ↑k, .int .i64 ↑j, .bool true, .pointer (some ⟨g14, o14 + j * 4, none⟩), .agg #[.int .i64 p, .int .i64 q, .int .i64 s, .int .i64 t], .agg #[.int .i64 0, .int .i64 0], .agg #[.int .i64 p, .int .i64 q, .int .i64 s, .int .i64 t], .agg #[.int .i64 q, .int .i64 p, .int .i64 t, .int .i64 s], .agg #[.int .i64 p, .int .i64 q, .int .i64 s, .int .i64 t], .agg #[.bool s0, .bool s1, .bool s2, .bool s3, .bool s4, .int .i64 dy, .int .i64 dx], .agg #[.int .i64 dy, .int .i64 dx], .agg #[.int .i64 0, .int .i64 0], .agg #[.int .i64 p, .int .i64 q, .int .i64 s, .int .i64 t], .agg #[.int .i64 p, .int .i64 q, .int .i64 s, .int .i64 t], .agg #[.bool t0', .bool t1', .bool t2', .bool t3', .bool t4', .int .i64 dx, .int .i64 dy], .agg #[.int .i64 dx, .int .i64 dy], .agg #[.int .i64 dx, .int .i64 dy], .bool false, .bool false, v102, v103, v104, v105, u106, u107, u108, u109, u110, u111, u112, u113, u114, u115], []⟩ ∧
              Hid (L 8 = true → v102 = .pointer (some ⟨g17, 0, none⟩)) ∧ Hid (L 9 = true → v103 = .int .i64 dy) ∧ Hid (L 10 = true → v104 = .pointer (some ⟨g13, 1, none⟩)) ∧ Hid (L 11 = true → v105 = .int .i64 dy) ∧ (At u g17 29 [.int .i64 dy, .int .i64 dx] ∧ At u wr.heap.size 25 [.int .i64 p, .int .i64 q, .int .i64 s, .int .i64 t] ∧ Below wr.heap.size wr u)) ?_ ?_ ?_
          · exact ⟨_, _, _, _, rfl, (Lib.hid fun h => by cases h), (Lib.hid fun h => by cases h), (Lib.hid fun h => by cases h), (Lib.hid fun h => by cases h), hW⟩
          · clear hW
            intro L a' u i hi1 hi2 hI hL hd
            obtain ⟨v102, v103, v104, v105, rfl, k8, k9, k10, k11, hW⟩ := hI
            obtain rfl | rfl | rfl | rfl := (show ∀ i : Nat, 8 ≤ i → i < 12 → (i = 8 ∨ i = 9 ∨ i = 10 ∨ i = 11) by omega) i hi1 hi2
            · -- operation 8
              have HW := Lib.hid hW
              clear hW hL hd hi1 hi2
              refine wpOp_step rfl fun K hK => ?_
              go_simp
              refine hK _ _ ⟨_, _, _, _, rfl, (Lib.hid fun _ => rfl), k9, k10, k11, HW.out⟩
            · -- operation 9
              obtain rfl := k8.out (hd 8 (by decide))
              obtain ⟨c0, c1⟩ := hW.1.two.1
              have HW := Lib.hid hW
              clear hW hL hd hi1 hi2
              refine wpOp_step rfl fun K hK => ?_
              go_simp
              refine hK _ _ ⟨_, _, _, _, rfl, k8, (Lib.hid fun _ => rfl), k10, k11, HW.out⟩
            · -- operation 10
              have HW := Lib.hid hW
              clear hW hL hd hi1 hi2
              refine wpOp_step rfl fun K hK => ?_
              go_simp
              refine hK _ _ ⟨_, _, _, _, rfl, k8, k9, (Lib.hid fun _ => rfl), k11, HW.out⟩
            · -- operation 11
              obtain rfl := k10.out (hd 10 (by decide))
              obtain ⟨c0, c1⟩ := (H13.out.by (HB4.out.trans (hW.2.2.mono HB4.out.size))).two.1
              have HW := Lib.hid hW
              clear hW hL hd hi1 hi2
              refine wpOp_step rfl fun K hK => ?_
              go_simp
              refine hK _ _ ⟨_, _, _, _, rfl, k8, k9, k10, (Lib.hid fun _ => rfl), HW.out⟩
          clear hW
          clear u
          intro L a' u hI hall
          obtain ⟨v102, v103, v104, v105, rfl, k8, k9, k10, k11, hW⟩ := hI
          obtain rfl := k8.out (hall 8 (by decide))
          obtain rfl := k9.out (hall 9 (by decide))
          obtain rfl := k10.out (hall 10 (by decide))
          obtain rfl := k11.out (hall 11 (by decide))
          clear k8 k9 k10 k11 hall L
          -- operation 12 alone
          refine from_one' hTab 12 (by kernel_rfl) ?_
          have HW := Lib.hid hW
          clear hW
          refine wpOp_step rfl fun K hK => ?_
          go_simp
          refine hK _ _ ?_
          clear hK K
          have hW := HW.out
          clear HW
          -- operation 13 alone
          refine from_one' hTab 13 (by kernel_rfl) ?_
          have HW := Lib.hid hW
          clear hW
          refine wpOp_step rfl fun K hK => ?_
          go_simp
          refine hK _ _ ?_
          clear hK K
          have hW := HW.out
          clear HW
          -- operation 14 alone
          refine from_one' hTab 14 (by kernel_rfl) ?_
          have HW := Lib.hid hW
          clear hW
          refine wpOp_step rfl fun K hK => ?_
          go_simp
          refine hK _ _ ?_
          clear hK K
          have hW := HW.out
          clear HW
          -- operations 15 to 18
          refine from_block' hTab 15 19 (by decide) (by kernel_rfl)
            (fun L a' u => ∃ v109 v110 v111 v112 : Value, a' = ⟨#[Value.slice A n c, Value.slice A1 n1 c1, Value.slice A2 n2 c2, Value.slice A3 n3 c3, undef, undef, undef, undef, u8, .pointer (some ⟨g9, 0, none⟩), Value.slice A10 k c10, .int .i64 ↑k, u12, .pointer (some ⟨g13, 0, none⟩), .slice (some ⟨g14, o14, none⟩) k c14, undef, .pointer (some ⟨wr.heap.size, 0, none⟩), .pointer (some ⟨g17, 0, none⟩), Value.slice A n c, .agg #[.int .i64 a, .int .i64 b, .int .i64 x, .int .i64 d], .slice (some ⟨w1.heap.size, 0, none⟩) 0 0, .int .i64 ↑k, Value.slice A1 n1 c1, .int .i64 ↑n1, Value.slice A2 n2 c2, .int .i64 ↑n2, .int .i64 ↑k, .bool false, u28, u29, u30, u31, u32, u33, u34, u35, u36, u37, u38, u39, u40, u41, u42, u43, u44, u45, u46, u47, u48, u49, u50, u51, u52, u53, .pointer (some ⟨g9, 2, none⟩), .int .i64 x, .pointer (some ⟨g9, 0, none⟩), .int .i64 a, .int .i64 dx, .pointer (some ⟨g9, 3, none⟩), .int .i64 d, .pointer (some ⟨g9, 1, none⟩), .int .i64 b, .int .i64 dy, .agg #[.int .i64 dx, .int .i64 dy], .agg #[.int .i64 a, .int .i64 b, .int .i64 x, .int .i64 d], Value.slice A10 k c10, .slice (some ⟨g14, o14, none⟩) k c14, .slice (some ⟨g14, o14, none⟩) k c14, .int .i64 ↑k, Value.slice A10 k c10, .int .i64 ↑k, .bool false, .bool false, .agg #[.int .i64 0, .int .i64 0], .agg #[.int .i64 a, .int .i64 b, .int .i64 x, .int .i64 d], .agg #[.int .i64 a, .int .i64 b, .int .i64 x, .int .i64 d], .agg #[.bool t0, .bool t1, .bool t2, .bool t3, .bool t4, .int .i64 dx, .int .i64 dy], .agg #[.int .i64 dx, .int .i64 dy], .agg #[.int .i64 dx, .int .i64 dy], .bool false, .bool false, .slice (some ⟨g14, o14, none⟩) k c14, .int .i64 ↑k, .int .i64 ↑j, .bool true, .pointer (some ⟨g14, o14 + j * 4, none⟩), .agg #[.int .i64 p, .int .i64 q, .int .i64 s, .int .i64 t], .agg #[.int .i64 0, .int .i64 0], .agg #[.int .i64 p, .int .i64 q, .int .i64 s, .int .i64 t], .agg #[.int .i64 q, .int .i64 p, .int .i64 t, .int .i64 s], .agg #[.int .i64 p, .int .i64 q, .int .i64 s, .int .i64 t], .agg #[.bool s0, .bool s1, .bool s2, .bool s3, .bool s4, .int .i64 dy, .int .i64 dx], .agg #[.int .i64 dy, .int .i64 dx], .agg #[.int .i64 0, .int .i64 0], .agg #[.int .i64 p, .int .i64 q, .int .i64 s, .int .i64 t], .agg #[.int .i64 p, .int .i64 q, .int .i64 s, .int .i64 t], .agg #[.bool t0', .bool t1', .bool t2', .bool t3', .bool t4', .int .i64 dx, .int .i64 dy], .agg #[.int .i64 dx, .int .i64 dy], .agg #[.int .i64 dx, .int .i64 dy], .bool false, .bool false, .pointer (some ⟨g17, 0, none⟩), .int .i64 dy, .pointer (some ⟨g13, 1, none⟩), .int .i64 dy, .bool false, .bool false, .bool false, v109, v110, v111, v112, u113, u114, u115], []⟩ ∧
              Hid (L 15 = true → v109 = .pointer (some ⟨g17, 1, none⟩)) ∧ Hid (L 16 = true → v110 = .int .i64 dx) ∧ Hid (L 17 = true → v111 = .pointer (some ⟨g13, 0, none⟩)) ∧ Hid (L 18 = true → v112 = .int .i64 dx) ∧ (At u g17 29 [.int .i64 dy, .int .i64 dx] ∧ At u wr.heap.size 25 [.int .i64 p, .int .i64 q, .int .i64 s, .int .i64 t] ∧ Below wr.heap.size wr u)) ?_ ?_ ?_
          · exact ⟨_, _, _, _, rfl, (Lib.hid fun h => by cases h), (Lib.hid fun h => by cases h), (Lib.hid fun h => by cases h), (Lib.hid fun h => by cases h), hW⟩
          · clear hW
            intro L a' u i hi1 hi2 hI hL hd
            obtain ⟨v109, v110, v111, v112, rfl, k15, k16, k17, k18, hW⟩ := hI
            obtain rfl | rfl | rfl | rfl := (show ∀ i : Nat, 15 ≤ i → i < 19 → (i = 15 ∨ i = 16 ∨ i = 17 ∨ i = 18) by omega) i hi1 hi2
            · -- operation 15
              have HW := Lib.hid hW
              clear hW hL hd hi1 hi2
              refine wpOp_step rfl fun K hK => ?_
              go_simp
              refine hK _ _ ⟨_, _, _, _, rfl, (Lib.hid fun _ => rfl), k16, k17, k18, HW.out⟩
            · -- operation 16
              obtain rfl := k15.out (hd 15 (by decide))
              obtain ⟨c0, c1⟩ := hW.1.two.1
              have HW := Lib.hid hW
              clear hW hL hd hi1 hi2
              refine wpOp_step rfl fun K hK => ?_
              go_simp
              refine hK _ _ ⟨_, _, _, _, rfl, k15, (Lib.hid fun _ => rfl), k17, k18, HW.out⟩
            · -- operation 17
              have HW := Lib.hid hW
              clear hW hL hd hi1 hi2
              refine wpOp_step rfl fun K hK => ?_
              go_simp
              refine hK _ _ ⟨_, _, _, _, rfl, k15, k16, (Lib.hid fun _ => rfl), k18, HW.out⟩
            · -- operation 18
              obtain rfl := k17.out (hd 17 (by decide))
              obtain ⟨c0, c1⟩ := (H13.out.by (HB4.out.trans (hW.2.2.mono HB4.out.size))).two.1
              have HW := Lib.hid hW
              clear hW hL hd hi1 hi2
              refine wpOp_step rfl fun K hK => ?_
              go_simp
              refine hK _ _ ⟨_, _, _, _, rfl, k15, k16, k17, (Lib.hid fun _ => rfl), HW.out⟩
          clear hW
          clear u
          intro L a' u hI hall
          obtain ⟨v109, v110, v111, v112, rfl, k15, k16, k17, k18, hW⟩ := hI
          obtain rfl := k15.out (hall 15 (by decide))
          obtain rfl := k16.out (hall 16 (by decide))
          obtain rfl := k17.out (hall 17 (by decide))
          obtain rfl := k18.out (hall 18 (by decide))
          clear k15 k16 k17 k18 hall L
          -- operation 19 alone
          refine from_one' hTab 19 (by kernel_rfl) ?_
          have HW := Lib.hid hW
          clear hW
          refine wpOp_step rfl fun K hK => ?_
          go_simp
          refine hK _ _ ?_
          clear hK K
          have hW := HW.out
          clear HW
          -- operation 20 alone
          refine from_one' hTab 20 (by kernel_rfl) ?_
          have HW := Lib.hid hW
          clear hW
          refine wpOp_step rfl fun K hK => ?_
          go_simp
          refine hK _ _ ?_
          clear hK K
          have hW := HW.out
          clear HW
          refine from_end' hTab 21 (by kernel_rfl) ?_
          clear hTab
          have HW := Lib.hid hW
          clear hW
          go_wp2
          go_roundw
          case rel => exact ⟨j + 1, by omega, by go_num, HB4.out.trans (HW.out.2.2.mono HB4.out.size)⟩
          case measure => simp [intOf]; omega
        · obtain rfl : j = k := by omega
          go_wp2
          go_ret
          exact ⟨rfl, HB3.out.trans (HB4.out.mono HB3.out.size)⟩
end Go.Proofs.Ytenhhkeajhkfoaa
