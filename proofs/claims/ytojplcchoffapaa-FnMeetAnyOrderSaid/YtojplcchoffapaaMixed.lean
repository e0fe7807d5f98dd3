/- The contract of the laws' function mixed. Conditions: at most 5864062014634 rectangles. -/
import Derived.Test.YtojplcchoffapaaOwnS
import Derived.Test.YtojplcchoffapaaCut
import Derived.Test.YtojplcchoffapaaBlocks
import Derived.Test.YtojplcchoffapaaTail
import Derived.Deep.DeepCutAuto
import Derived.Outline
namespace Go.Proofs.Ytojplcchoffapaa
open Go.RowKit

/-- what the loop of mixed keeps: the left ones at A, read alone; the others in a slice of the call's own -/
def Mix (u : World) (base : Nat) (A : Option Addr) (c : Nat) (y : Value) (ll lo : List R) : Prop :=
  Rects u A ll ∧ ll.length ≤ c ∧ (A = none → c = 0) ∧ Own u base y lo ∧ ∀ g o, A = some ⟨g, o, none⟩ → g < u.heap.size ∧ y.ownBlock ≠ some g

def tab_mixed8 : List (List Nat) := [[], [], [], [0, 1, 2], [], [], [5], [4, 5, 6], [0, 1, 2, 3, 4, 5, 6, 7], [0, 1, 2, 3, 4, 5, 6, 7, 8]]
set_option maxHeartbeats 4000000 in
theorem mixed_any (A A1 : Option Addr) (c n1 c1 : Nat) (l : List R) (z1 : List Int) (w : World) (hR : Rects w A l) (hc : A = none → c = 0) (hz : Ints w A1 n1 z1) (hn : l.length ≤ 5864062014634) (hn1 : n1 ≤ 17592186044414) :
    Calls Try.prog 27 #[.slice A l.length c, .slice A1 n1 c1] w fun e w' => ∃ v m, e = .returned v ∧ m.Perm l ∧ Own w' w.heap.size v m ∧ Below w.heap.size w w' := by
  have HR := Lib.hid (And.intro hR hz)
  clear hR hz
  go_enter Try.func27, Try.ntmps27
  go_upto_region 2 with (at_builtin; refine append_rects rfl (.tmp 10) (.tmp 11) rfl _ w.heap.size _ [] l A c rfl (own_empty w) rfl (HR.out.1.alloc _) hc (by simp; omega) (by simp) ?_; intro v5 w1 ho5 hb5 _ _; obtain ⟨A12, c12, rfl, hR5, hc5, hcap5, hblk5⟩ := own_left ho5)
  have hmix : Mix (w1.alloc (.cells #[] 24)) w.heap.size A12 c12 (.slice (some ⟨w1.heap.size, 0, none⟩) 0 0) l [] := by
    refine ⟨hR5.alloc _, hcap5, hc5, (own_empty w1).mono (by have := hb5.size; simp at this; omega), fun g o e => ?_⟩
    have hlt := hblk5 g o e
    refine ⟨by simp; omega, fun e2 => ?_⟩
    simp [Value.ownBlock] at e2
    omega
  have HB1 := Lib.hid (((Below.refl w.heap.size w).alloc (Nat.le_refl _) (.cells #[] 24)).trans hb5)
  have HMIX := Lib.hid hmix
  have HPERM := Lib.hid (List.Perm.refl l)
  have HLEN := Lib.hid (Nat.le_refl l.length)
  clear hmix ho5 hb5 hR5 hc5 hcap5 hblk5
  go_wp2
  go_loopw [5, 6, 16] (fun x y i wr => ∃ (k : Nat) (A5 : Option Addr) (c5 : Nat) (ll lo : List R), k ≤ n1 ∧ i = .int .i64 k ∧ x = .slice A5 ll.length c5 ∧ Mix wr w.heap.size A5 c5 y ll lo ∧ (lo ++ ll).Perm l ∧ Below w.heap.size w wr) (fun _ _ i _ => n1 - (intOf i).toNat)
  case atStart => exact ⟨0, A12, c12, l, [], Nat.zero_le _, rfl, rfl, HMIX.out, List.Perm.refl l, HB1.out.alloc HB1.out.size _⟩
  case round =>
    obtain ⟨k, A5, c5, ll, lo, hk, rfl, rfl, hmix, hperm, hbel⟩ := hrel
    have hlp := hperm.length_eq
    rw [List.length_append] at hlp
    by_cases hlt : k < n1
    · obtain ⟨g1, o1, rfl, hg1, hc1⟩ := (HR.out.2.below (Nat.le_refl _) hbel).at_ hlt
      generalize z1.getD k 0 = nn at hc1
      by_cases h0 : ll.length = 0
      · have b0 : ((ll.length : Int) == 0) = true := by rw [h0]; rfl
        have b1 : (ll.length == 0) = true := by rw [h0]; rfl
        have hO := hmix.2.2.2.1
        have HI := Lib.hid (And.intro hmix (And.intro hperm hbel))
        clear hmix hperm hbel hO
        go_wp2_with (at_builtin; refine append_rects rfl (.tmp 50) (.tmp 51) rfl _ w.heap.size _ lo ll A5 c5 rfl HI.out.1.2.2.2.1 rfl HI.out.1.1 HI.out.1.2.2.1 (by omega) HI.out.2.2.size ?_; intro v' w5 hown5 hb5 _ _)
        go_ret
        exact ⟨_, _, rfl, HI.out.2.1, hown5, HI.out.2.2.trans hb5⟩
      · obtain ⟨m, hm⟩ : ∃ m, ll.length = m := ⟨_, rfl⟩
        rw [hm] at h0 hlp ⊢
        have b0 : ((m : Int) == 0) = false := beq_eq_false_iff_ne.2 (by omega)
        have b1 : (m == 0) = false := beq_eq_false_iff_ne.2 h0
        obtain ⟨q, hqm, hq⟩ := place nn m (by omega) (by omega)
        obtain ⟨g5, o5, rfl, hg5⟩ := hmix.1.addr (by omega)
        obtain ⟨⟨p0, p1, p2, p3⟩, hr⟩ : ∃ r, ll[q]'(by omega) = r := ⟨_, rfl⟩
        obtain ⟨y0, y1, y2, y3⟩ := hmix.1.cells (i := q) (by omega) hr
        have hpo := perm_out lo ll q (by omega)
        rw [hr] at hpo
        have HI := Lib.hid (And.intro hmix (And.intro (hpo.trans hperm) (And.intro hbel hm)))
        clear hmix hperm hbel hm hr hpo
        go_upto_region 8 with (at_builtin; refine append_rect_gr rfl (.tmp 33) (.tmp 38) rfl _ w.heap.size wr.heap.size _ lo ⟨p0, p1, p2, p3⟩ rfl (HI.out.1.2.2.2.1.alloc _) rfl (At.new _ _ _) (by omega) (by have := HI.out.2.2.1.size; simp; omega) ?_; intro v6 w3 hown6 hgr6 hbl6 hb6)
        clear y0 y1 y2 y3
        have hb6' := (HI.out.2.2.1.alloc HI.out.2.2.1.size (.cells #[.int .i64 p0, .int .i64 p1, .int .i64 p2, .int .i64 p3] 24)).trans hb6
        have hg5a := HI.out.1.2.2.2.2 g5 o5 rfl
        have hR5 : Rects w3 (some ⟨g5, o5, none⟩) ll := (HI.out.1.1.alloc _).grown hgr6 (fun g o e => by simp only [Option.some.injEq, Addr.mk.injEq, and_true] at e; rw [← e.1]; exact hg5a.2)
        have hv6 : v6.ownBlock ≠ some g5 := by
          rcases hbl6 with e | e
          · rw [e]; exact hg5a.2
          · rw [e]; intro e2; injection e2 with e2; simp at e2; omega
        have hg53 : g5 < w3.heap.size := by have := hgr6.size; simp at this; omega
        have HJ := Lib.hid (And.intro hR5 (And.intro hown6 (And.intro hv6 (And.intro hb6' HI.out.2.1))))
        have hcap := HI.out.1.2.1
        have hml := HI.out.2.2.2
        rw [hml] at hcap
        have HML := Lib.hid hml
        clear hb6 hb6' hg5a hR5 hv6 hown6 hgr6 hbl6 HI hml
        obtain ⟨A5, hA5⟩ : ∃ A5, A5 = some (⟨g5, o5, none⟩ : Addr) := ⟨_, rfl⟩
        rw [← hA5]
        have HA5 := Lib.hid hA5
        clear hA5 hq hg5
        have x1 : IntKind.i64.wrap ((q : Int) + 1) = (q : Int) + 1 := IntWalk.i64_in _ (by omega)
        have x2 : 0 ≤ (q : Int) + 1 := by omega
        have x3 : (q : Int) + 1 ≤ m := by omega
        have x4 : ((q : Int) + 1).toNat = q + 1 := by omega
        have x5 : q ≤ c5 := by omega
        have x6 : q + 1 ≤ m := hqm
        refine from_table tab_mixed8 (by kernel_rfl) (by kernel_rfl) (by kernel_rfl) (by kernel_rfl) fun hTab => ?_
        refine from_gen (fun u => Below w3.heap.size w3 u) ?_ ?_
        · exact (Below.refl _ _).drew
        intro u hW
        -- operations 0 to 7
        refine from_block' hTab 0 8 (by decide) (by kernel_rfl)
          (fun L a' u => ∃ v40 v41 v42 v43 v44 v45 v46 v47 : Value, a' = ⟨#[Value.slice A l.length c, .slice (some ⟨g1, o1, none⟩) n1 c1, undef, undef, Value.slice none 0 0, Value.slice A5 m c5, v6, undef, .int .i64 nn, .int .i64 ↑q, .slice (some ⟨w.heap.size, 0, none⟩) 0 0, Value.slice A l.length c, Value.slice A12 l.length c12, .slice (some ⟨w1.heap.size, 0, none⟩) 0 0, .slice (some ⟨g1, o1, none⟩) n1 c1, .int .i64 ↑n1, .int .i64 ↑k, .bool true, .pointer (some ⟨g1, o1 + k, none⟩), .int .i64 nn, Value.slice A5 m c5, .int .i64 ↑m, .bool false, .int .i64 nn, Value.slice A5 m c5, .int .i64 ↑m, .int .i64 (nn.tmod ↑m), Value.slice A5 m c5, .int .i64 ↑m, .int .i64 (wrap64 (nn.tmod ↑m + ↑m)), Value.slice A5 m c5, .int .i64 ↑m, .int .i64 ↑q, u6, Value.slice A5 m c5, .int .i64 ↑q, .pointer (some ⟨g5, o5 + q * 4, none⟩), .agg #[.int .i64 p0, .int .i64 p1, .int .i64 p2, .int .i64 p3], .slice (some ⟨wr.heap.size, 0, none⟩) 1 1, v6, v40, v41, v42, v43, v44, v45, v46, v47, u48, u49, undef, undef, undef], []⟩ ∧
            Hid (L 0 = true → v40 = Value.slice A5 m c5) ∧ Hid (L 1 = true → v41 = .int .i64 ↑q) ∧ Hid (L 2 = true → v42 = .int .i64 ↑q) ∧ Hid (L 3 = true → v43 = .slice A5 q q) ∧ Hid (L 4 = true → v44 = Value.slice A5 m c5) ∧ Hid (L 5 = true → v45 = .int .i64 ↑q) ∧ Hid (L 6 = true → v46 = .int .i64 (↑q + 1)) ∧ Hid (L 7 = true → v47 = .slice (behindR A5 c5 (q + 1)) (m - (q + 1)) (c5 - (q + 1))) ∧ (Below w3.heap.size w3 u)) ?_ ?_ ?_
        · exact ⟨_, _, _, _, _, _, _, _, rfl, (Lib.hid fun h => by cases h), (Lib.hid fun h => by cases h), (Lib.hid fun h => by cases h), (Lib.hid fun h => by cases h), (Lib.hid fun h => by cases h), (Lib.hid fun h => by cases h), (Lib.hid fun h => by cases h), (Lib.hid fun h => by cases h), hW⟩
        · clear hW
          intro L a' u i hi1 hi2 hI hL hd
          obtain ⟨v40, v41, v42, v43, v44, v45, v46, v47, rfl, k0, k1, k2, k3, k4, k5, k6, k7, hW⟩ := hI
          obtain rfl | rfl | rfl | rfl | rfl | rfl | rfl | rfl := (show ∀ i : Nat, 0 ≤ i → i < 8 → (i = 0 ∨ i = 1 ∨ i = 2 ∨ i = 3 ∨ i = 4 ∨ i = 5 ∨ i = 6 ∨ i = 7) by omega) i hi1 hi2
          · -- operation 0
            have HW := Lib.hid hW
            clear hW hL hd hi1 hi2
            refine wpOp_step rfl fun K hK => ?_
            go_simp
            refine hK _ _ ⟨_, _, _, _, _, _, _, _, rfl, (Lib.hid fun _ => rfl), k1, k2, k3, k4, k5, k6, k7, HW.out⟩
          · -- operation 1
            have HW := Lib.hid hW
            clear hW hL hd hi1 hi2
            refine wpOp_step rfl fun K hK => ?_
            go_simp
            refine hK _ _ ⟨_, _, _, _, _, _, _, _, rfl, k0, (Lib.hid fun _ => rfl), k2, k3, k4, k5, k6, k7, HW.out⟩
          · -- operation 2
            have HW := Lib.hid hW
            clear hW hL hd hi1 hi2
            refine wpOp_step rfl fun K hK => ?_
            go_simp
            refine hK _ _ ⟨_, _, _, _, _, _, _, _, rfl, k0, k1, (Lib.hid fun _ => rfl), k3, k4, k5, k6, k7, HW.out⟩
          · -- operation 3
            obtain rfl := k0.out (hd 0 (by decide))
            obtain rfl := k1.out (hd 1 (by decide))
            obtain rfl := k2.out (hd 2 (by decide))
            have HW := Lib.hid hW
            clear hW hL hd hi1 hi2
            refine wpOp_step rfl fun K hK => ?_
            go_simp
            refine hK _ _ ⟨_, _, _, _, _, _, _, _, rfl, k0, k1, k2, (Lib.hid fun _ => rfl), k4, k5, k6, k7, HW.out⟩
          · -- operation 4
            have HW := Lib.hid hW
            clear hW hL hd hi1 hi2
            refine wpOp_step rfl fun K hK => ?_
            go_simp
            refine hK _ _ ⟨_, _, _, _, _, _, _, _, rfl, k0, k1, k2, k3, (Lib.hid fun _ => rfl), k5, k6, k7, HW.out⟩
          · -- operation 5
            have HW := Lib.hid hW
            clear hW hL hd hi1 hi2
            refine wpOp_step rfl fun K hK => ?_
            go_simp
            refine hK _ _ ⟨_, _, _, _, _, _, _, _, rfl, k0, k1, k2, k3, k4, (Lib.hid fun _ => rfl), k6, k7, HW.out⟩
          · -- operation 6
            obtain rfl := k5.out (hd 5 (by decide))
            have HW := Lib.hid hW
            clear hW hL hd hi1 hi2
            refine wpOp_step rfl fun K hK => ?_
            go_simp
            refine hK _ _ ⟨_, _, _, _, _, _, _, _, rfl, k0, k1, k2, k3, k4, k5, (Lib.hid fun _ => rfl), k7, HW.out⟩
          · -- operation 7
            obtain rfl := k4.out (hd 4 (by decide))
            obtain rfl := k6.out (hd 6 (by decide))
            have HW := Lib.hid hW
            clear hW hL hd hi1 hi2
            refine wpOp_step rfl fun K hK => ?_
            go_simp
            refine hK _ _ ⟨_, _, _, _, _, _, _, _, rfl, k0, k1, k2, k3, k4, k5, k6, (Lib.hid fun _ => rfl), HW.out⟩
        clear hW
        clear u
        intro L a' u hI hall
        obtain ⟨v40, v41, v42, v43, v44, v45, v46, v47, rfl, k0, k1, k2, k3, k4, k5, k6, k7, hW⟩ := hI
        obtain rfl := k0.out (hall 0 (by decide))
        obtain rfl := k1.out (hall 1 (by decide))
        obtain rfl := k2.out (hall 2 (by decide))
        obtain rfl := k3.out (hall 3 (by decide))
        obtain rfl := k4.out (hall 4 (by decide))
        obtain rfl := k5.out (hall 5 (by decide))
        obtain rfl := k6.out (hall 6 (by decide))
        obtain rfl := k7.out (hall 7 (by decide))
        clear k0 k1 k2 k3 k4 k5 k6 k7 hall L
        refine from_tail hTab 8 (by kernel_rfl) ?_
        show wpOps _ _ _ [8, 9] _ _
        clear hTab
        have hA5 := HA5.out
        subst hA5
        obtain ⟨ad, had⟩ : ∃ ad, behindR (some ⟨g5, o5, none⟩) c5 (q + 1) = some ad := by
          unfold behindR
          split
          · exact ⟨_, rfl⟩
          · exact ⟨_, rfl⟩
        have hdrop := HJ.out.1.drop (q + 1) c5 (by rw [HML.out]; exact hcap)
        rw [had] at hdrop ⊢
        have HD := Lib.hid (And.intro (HJ.out.1.by hW) (And.intro (hdrop.by hW) (And.intro (HJ.out.2.1.by hW) (HJ.out.2.2.2.1.trans (hW.mono HJ.out.2.2.2.1.size)))))
        have hg54 : g5 < u.heap.size := by have := hW.size; omega
        clear hdrop had hW
        refine wpOps_tail 8 _ rfl rfl ?_
        simp only [List.drop_succ_cons, List.drop_zero]
        go_wp2_with (at_builtin; refine append_cut rfl (.tmp 43) (.tmp 47) rfl _ g5 o5 q (ll.take q) (ll.drop (q + 1)) ad (m - (q + 1)) _ rfl rfl (by rw [List.length_take, HML.out]; omega) (by rw [List.length_drop, HML.out]) (HD.out.1.take q) HD.out.2.1 hg54 (by omega) ?_; intro A' c' w5 hR' hcap' hc' hblk' hgr')
        go_roundw
        case rel =>
          have hll : (ll.take q ++ ll.drop (q + 1)).length = q + (m - (q + 1)) := by rw [List.length_append, List.length_take, List.length_drop, HML.out]; omega
          refine ⟨k + 1, A', c', ll.take q ++ ll.drop (q + 1), lo ++ [⟨p0, p1, p2, p3⟩], by omega, by go_num, by rw [hll], ⟨hR', by rw [hll]; exact hcap', hc', HD.out.2.2.1.keep (fun kk hkk => hgr'.block kk hkk (by simp)), fun g' o' e => ?_⟩, HJ.out.2.2.2.2, ?_⟩
          · obtain ⟨h1, h2⟩ := hblk' g' o' e
            refine ⟨h1, ?_⟩
            rcases h2 with rfl | h2
            · exact HJ.out.2.2.1
            · intro e2
              have := (World.ownsRow.lt HD.out.2.2.1 g' e2).2
              omega
          · exact HD.out.2.2.2.grown hgr' HD.out.2.2.2.size (fun kk hkk => by cases hkk)
        case measure => simp [intOf]; omega
    · obtain rfl : k = n1 := by omega
      have hO := hmix.2.2.2.1
      have HI := Lib.hid (And.intro hmix (And.intro hperm hbel))
      clear hmix hperm hbel hO
      go_wp2_with (at_builtin; refine append_rects rfl (.tmp 50) (.tmp 51) rfl _ w.heap.size _ lo ll A5 c5 rfl HI.out.1.2.2.2.1 rfl HI.out.1.1 HI.out.1.2.2.1 (by omega) HI.out.2.2.size ?_; intro v' w5 hown5 hb5 _ _)
      go_ret
      exact ⟨_, _, rfl, HI.out.2.1, hown5, HI.out.2.2.trans hb5⟩
end Go.Proofs.Ytojplcchoffapaa
