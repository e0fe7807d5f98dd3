/- The contract of FnGridOnce's function clamp. Conditions: at most 17592186044414 numbers. -/
import Derived.Test.YtenhhkeajhkfoaaPlainCuts
namespace Go.Proofs.Ytenhhkeajhkfoaa
open Go.RowKit

set_option maxRecDepth 10000 in
set_option maxHeartbeats 8000000 in
theorem clamp_any (A : Option Addr) (n c : Nat) (z : List Int) (lo hi : Int) (w : World) (hz : Ints w A n z) (hn : n ≤ 17592186044414) :
    Calls Try.prog 32 #[.slice A n c, .int .i64 lo, .int .i64 hi] w fun e w' => ∃ v m, e = .returned v ∧ m.length ≤ n ∧ m.Pairwise (· ≤ ·) ∧ (∀ y ∈ m, lo ≤ y ∧ y ≤ hi) ∧ OwnI w' w.heap.size v ([lo] ++ m ++ [hi]) ∧ Below w.heap.size w w' := by
  have HZ := Lib.hid hz
  clear hz
  go_enter Try.func32, Try.ntmps32
  go_wp2_with fail
  refine (sorted_any A n c z _ (HZ.out.alloc _) (by omega)).mono ?_
  rintro _ w1 ⟨v13, l, rfl, hlen, hso, ho13, hb1⟩
  obtain ⟨A13, c13, rfl, hN13, hc13, hcap13⟩ := ho13.form
  rw [hlen] at hcap13 ⊢
  have HS := Lib.hid (And.intro hlen hso)
  have HN := Lib.hid hN13
  have hb1' := ((Below.refl w.heap.size w).alloc (Nat.le_refl _) (.cells #[.int .i64 lo] 3)).trans (hb1.mono (by simp))
  have HO := Lib.hid ((ownI_one w lo).by hb1)
  have HB := Lib.hid hb1'
  have hA13 : ∀ g o, A13 = some ⟨g, o, none⟩ → w.heap.size + 1 ≤ g := by
    intro g o e
    subst e
    have := (World.ownsRow.lt ho13 g rfl).1
    rw [size_alloc] at this
    exact this
  have HA := Lib.hid hA13
  clear hlen hso ho13 hN13 hc13 hcap13 hb1 hb1' hA13
  go_wp2
  go_loopw [7, 15] (fun v i wr => ∃ k : Nat, k ≤ n ∧ i = .int .i64 k ∧ OwnI wr w.heap.size v ([lo] ++ within lo hi (l.take k)) ∧ (∀ g o, A13 = some ⟨g, o, none⟩ → v.ownBlock ≠ some g) ∧ Nums wr A13 l ∧ Below w.heap.size w wr) (fun _ i _ => n - (intOf i).toNat)
  case atStart =>
    refine ⟨0, Nat.zero_le _, rfl, HO.out, fun g o e e2 => ?_, HN.out, HB.out⟩
    have := HA.out g o e
    simp [Value.ownBlock] at e2
    omega
  case round =>
    obtain ⟨k, hk, rfl, hown, hap, hN, hbel⟩ := hrel
    by_cases hlt : k < n
    · obtain ⟨g, o, rfl, hg, hx⟩ := hN.at_ (i := k) (by rw [HS.out.1]; exact hlt)
      have hsn := within_snoc lo hi l k (by rw [HS.out.1]; exact hlt)
      have hll := within_length lo hi l k
      rw [HS.out.1] at hll
      generalize l[k]'(by rw [HS.out.1]; exact hlt) = x at hx hsn
      generalize within lo hi (l.take k) = m at hsn hll hown
      have HI := Lib.hid (And.intro hown (And.intro (hap g o rfl) (And.intro hN (And.intro hbel (And.intro hsn hll)))))
      clear hown hap hN hbel hsn hll
      by_cases h1 : lo ≤ x
      · by_cases h2 : x ≤ hi
        · go_wp2_with (at_builtin; go_loud (refine append_ints_gr rfl (.tmp 27) (.tmp 29) rfl _ w.heap.size _ ([lo] ++ m) [x] (some ⟨wr.heap.size, 0, none⟩) 1 1 rfl (HI.out.1.alloc _) rfl rfl (At.nums (At.new _ _ _)) (fun h => by cases h) (by have := HI.out.2.2.2.2.2; simp; omega) (by have := HI.out.2.2.2.1.size; simp; omega) ?_); intro v' w5 ho5 hgr5 hbl5 hb5)
          go_roundw
          case rel =>
            have hk6 : v'.ownBlock ≠ some g := by
              rcases hbl5 with e | e
              · rw [e]; exact HI.out.2.1
              · rw [e]; intro e2; injection e2 with e2; simp at e2; omega
            refine ⟨k + 1, by omega, by go_num, ?_, fun g2 o2 e => ?_, numsGrown (HI.out.2.2.1.alloc _) hgr5 (fun g2 o2 e => ?_), (HI.out.2.2.2.1.alloc HI.out.2.2.2.1.size _).trans hb5⟩
            · rw [HI.out.2.2.2.2.1, if_pos ⟨h1, h2⟩, ← List.append_assoc]
              exact ho5
            · simp only [Option.some.injEq, Addr.mk.injEq, and_true] at e
              rw [← e.1]
              exact hk6
            · simp only [Option.some.injEq, Addr.mk.injEq, and_true] at e
              rw [← e.1]
              exact HI.out.2.1
          case measure => simp [intOf]; omega
        · go_wp2
          go_roundw
          case rel =>
            refine ⟨k + 1, by omega, by go_num, ?_, fun g2 o2 e => ?_, HI.out.2.2.1, HI.out.2.2.2.1⟩
            · rw [HI.out.2.2.2.2.1, if_neg (by omega)]
              exact HI.out.1
            · simp only [Option.some.injEq, Addr.mk.injEq, and_true] at e
              rw [← e.1]
              exact HI.out.2.1
          case measure => simp [intOf]; omega
      · go_wp2
        go_roundw
        case rel =>
          refine ⟨k + 1, by omega, by go_num, ?_, fun g2 o2 e => ?_, HI.out.2.2.1, HI.out.2.2.2.1⟩
          · rw [HI.out.2.2.2.2.1, if_neg (by omega)]
            exact HI.out.1
          · simp only [Option.some.injEq, Addr.mk.injEq, and_true] at e
            rw [← e.1]
            exact HI.out.2.1
        case measure => simp [intOf]; omega
    · obtain rfl : k = n := by omega
      rw [List.take_of_length_le (by rw [HS.out.1]; exact Nat.le_refl _)] at hown
      have hp : (within lo hi l).Pairwise (· ≤ ·) := HS.out.2.filter _
      have hb : ∀ y ∈ within lo hi l, lo ≤ y ∧ y ≤ hi := by
        intro y hy
        have := (List.mem_filter.1 hy).2
        simpa using this
      have hll : (within lo hi l).length ≤ k := Nat.le_trans (List.length_filter_le _ _) (by rw [HS.out.1]; exact Nat.le_refl _)
      generalize within lo hi l = m at hown hp hb hll
      have HI := Lib.hid (And.intro hown (And.intro hbel (And.intro hp hb)))
      clear hown hap hN hbel hp hb
      go_wp2_with (at_builtin; go_loud (refine append_ints_gr rfl (.tmp 32) (.tmp 34) rfl _ w.heap.size _ ([lo] ++ m) [hi] (some ⟨wr.heap.size, 0, none⟩) 1 1 rfl (HI.out.1.alloc _) rfl rfl (At.nums (At.new _ _ _)) (fun h => by cases h) (by simp; omega) (by have := HI.out.2.1.size; simp; omega) ?_); intro v' w5 ho5 hgr5 hbl5 hb5)
      go_ret
      exact ⟨_, m, rfl, hll, HI.out.2.2.1, HI.out.2.2.2, ho5, (HI.out.2.1.alloc HI.out.2.1.size _).trans hb5⟩
end Go.Proofs.Ytenhhkeajhkfoaa
