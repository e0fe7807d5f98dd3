/- The contract of spec.Sorted: a sorted list of as many numbers. Conditions: at most 17592186044416 numbers. -/
import Derived.Test.YtojplcchoffapaaOwnI
import Derived.Outline
namespace Go.Proofs.Ytojplcchoffapaa
open Go.RowKit

set_option maxRecDepth 10000 in
set_option maxHeartbeats 8000000 in
theorem sorted_any (A : Option Addr) (n c : Nat) (z : List Int) (w : World) (hz : Ints w A n z) (hn : n ≤ 17592186044416) :
    Calls Try.prog 29 #[.slice A n c] w fun e w' => ∃ v l, e = .returned v ∧ l.length = n ∧ l.Pairwise (· ≤ ·) ∧ OwnI w' w.heap.size v l ∧ Below w.heap.size w w' := by
  have HZ := Lib.hid hz
  clear hz
  go_enter Try.func29, Try.ntmps29
  go_wp2
  go_loopw [3, 11] (fun v i wr => ∃ (k : Nat) (l : List Int), k ≤ n ∧ i = .int .i64 k ∧ l.length = k ∧ l.Pairwise (· ≤ ·) ∧ OwnI wr w.heap.size v l ∧ Below w.heap.size w wr) (fun _ i _ => n - (intOf i).toNat)
  case atStart => exact ⟨0, [], Nat.zero_le _, rfl, rfl, .nil, ownI_nil w, (Below.refl _ _).alloc (Nat.le_refl _) _⟩
  case round =>
    obtain ⟨k, l, hk, rfl, hlen, hso, hown, hbel⟩ := hrel
    obtain ⟨A3, c3, rfl, hN3, hc3, hcap3⟩ := hown.form
    rw [hlen] at hcap3 ⊢
    by_cases hlt : k < n
    · obtain ⟨g, o, rfl, hg, hx⟩ := (HZ.out.below (Nat.le_refl _) hbel).at_ hlt
      generalize z.getD k 0 = x at hx
      have HL := Lib.hid (And.intro hlen (And.intro hso (And.intro hc3 hcap3)))
      have HB := Lib.hid (And.intro hown hbel)
      have HN := Lib.hid hN3
      clear hlen hso hc3 hown hbel hN3
      go_wp2
      generalize wr = wo at *
      go_loopw [6] (fun iv wi => ∃ j : Nat, j ≤ k ∧ iv = .int .i64 j ∧ (∀ y ∈ l.take j, y ≤ x) ∧ Nums wi A3 l ∧ Below wo.heap.size wo wi) (fun iv _ => k - (intOf iv).toNat)
      case atStart => exact ⟨0, Nat.zero_le _, rfl, by simp, HN.out, Below.refl _ _⟩
      case round =>
        obtain ⟨j, hj, rfl, h1, hwi, hbw⟩ := hrel
        generalize wr = wi at *
        by_cases hltj : j < k
        · obtain ⟨g3, o3, rfl, hg3, hy⟩ := hwi.at_ (i := j) (by rw [HL.out.1]; exact hltj)
          obtain ⟨y, hyv⟩ : ∃ y, l[j]'(by rw [HL.out.1]; exact hltj) = y := ⟨_, rfl⟩
          rw [hyv] at hy
          by_cases hle : y ≤ x
          · have h1' : ∀ y ∈ l.take (j + 1), y ≤ x := by
              rw [List.take_succ_eq_append_getElem (by rw [HL.out.1]; exact hltj), hyv]
              intro q hq
              rw [List.mem_append, List.mem_singleton] at hq
              rcases hq with hq | hq
              · exact h1 q hq
              · omega
            have HX := Lib.hid (And.intro h1' (And.intro hwi hbw))
            clear h1 h1' hwi hbw hyv
            go_wp2
            go_roundw
            case rel => exact ⟨j + 1, by omega, by go_num, HX.out.1, HX.out.2.1, HX.out.2.2⟩
            case measure => simp [intOf]; omega
          · have h2 := sorted_above HL.out.2.1 (x := x) (by rw [HL.out.1]; exact hltj) (by rw [hyv]; omega)
            clear hyv
            have HX := Lib.hid (And.intro h1 (And.intro h2 (And.intro hwi hbw)))
            have hjc : j ≤ c3 := by omega
            clear h1 h2 hwi hbw
            go_wp2_with (first | (at_builtin; (refine append_ints rfl (.tmp 30) (.tmp 33) rfl _ wi.heap.size _ [] (l.take j) (some ⟨g3, o3, none⟩) j c3 rfl (ownI_nil wi) rfl (by rw [List.length_take]; have := HL.out.1; omega) ((HX.out.2.2.1.alloc _).take j) HL.out.2.2.1 (by rw [List.length_take]; have := HL.out.1; simp; omega) (by simp) ?_); rw [List.nil_append]; intro v1 u1 ho1 hb1; have hB1 := ((Below.refl wi.heap.size wi).alloc (Nat.le_refl _) (.cells #[] 3)).trans hb1) | (at_builtin; (refine append_ints rfl (.tmp 35) (.tmp 37) rfl _ wi.heap.size _ (l.take j) [x] (some ⟨u1.heap.size, 0, none⟩) 1 1 rfl (ho1.alloc _) rfl rfl (At.nums (At.new _ _ _)) (fun h => by cases h) (by rw [List.length_take]; have := HL.out.1; simp; omega) (by have h3 := hB1.size; rw [size_alloc]; omega) ?_); intro v2 u2 ho2 hb2; have hB2 := (hB1.alloc hB1.size (.cells #[.int .i64 x] 3)).trans hb2) | (at_builtin; (refine append_ints rfl (.tmp 39) (.tmp 42) rfl _ wi.heap.size _ (l.take j ++ [x]) (l.drop j) (some ⟨g3, o3 + j, none⟩) (k - j) (c3 - j) rfl ho2 rfl (by rw [List.length_drop]; have := HL.out.1; omega) (behindI_some (show c3 ≠ j by omega) ▸ (HX.out.2.2.1.by hB2).drop j c3 (by have := HL.out.1; have := HL.out.2.2.2; omega)) (fun h => by cases h) (by simp; have := HL.out.1; omega) hB2.size ?_); intro v3 u3 ho3 hb3; have hB3 := hB2.trans hb3))
            go_roundw
            case rel => exact ⟨k + 1, _, by omega, by go_num, by rw [List.length_append, List.length_append, List.length_take, List.length_drop]; have := HL.out.1; simp; omega, sorted_insert HL.out.2.1 j HX.out.1 HX.out.2.1, ho3.mono (Nat.le_trans HB.out.2.size HX.out.2.2.2.size), HB.out.2.trans ((HX.out.2.2.2.trans (hB3.mono HX.out.2.2.2.size)).mono HB.out.2.size)⟩
            case measure => simp [intOf]; omega
        · have hjk : j = k := by omega
          have h2 : ∀ y ∈ l.drop j, x < y := by
            rw [List.drop_eq_nil_of_le (by rw [HL.out.1]; omega)]
            intro y hy
            cases hy
          clear hjk
          have HX := Lib.hid (And.intro h1 (And.intro h2 (And.intro hwi hbw)))
          have hjc : j ≤ c3 := by omega
          clear h1 h2 hwi hbw
          go_wp2_with (first | (at_builtin; (refine append_ints rfl (.tmp 30) (.tmp 33) rfl _ wi.heap.size _ [] (l.take j) A3 j c3 rfl (ownI_nil wi) rfl (by rw [List.length_take]; have := HL.out.1; omega) ((HX.out.2.2.1.alloc _).take j) HL.out.2.2.1 (by rw [List.length_take]; have := HL.out.1; simp; omega) (by simp) ?_); rw [List.nil_append]; intro v1 u1 ho1 hb1; have hB1 := ((Below.refl wi.heap.size wi).alloc (Nat.le_refl _) (.cells #[] 3)).trans hb1) | (at_builtin; (refine append_ints rfl (.tmp 35) (.tmp 37) rfl _ wi.heap.size _ (l.take j) [x] (some ⟨u1.heap.size, 0, none⟩) 1 1 rfl (ho1.alloc _) rfl rfl (At.nums (At.new _ _ _)) (fun h => by cases h) (by rw [List.length_take]; have := HL.out.1; simp; omega) (by have h3 := hB1.size; rw [size_alloc]; omega) ?_); intro v2 u2 ho2 hb2; have hB2 := (hB1.alloc hB1.size (.cells #[.int .i64 x] 3)).trans hb2) | (at_builtin; (refine append_ints rfl (.tmp 39) (.tmp 42) rfl _ wi.heap.size _ (l.take j ++ [x]) (l.drop j) (behindI A3 c3 j) (k - j) (c3 - j) rfl ho2 rfl (by rw [List.length_drop]; have := HL.out.1; omega) ((HX.out.2.2.1.by hB2).drop j c3 (by have := HL.out.1; have := HL.out.2.2.2; omega)) (behindI_none HL.out.2.2.1) (by simp; have := HL.out.1; omega) hB2.size ?_); intro v3 u3 ho3 hb3; have hB3 := hB2.trans hb3))
          go_roundw
          case rel => exact ⟨k + 1, _, by omega, by go_num, by rw [List.length_append, List.length_append, List.length_take, List.length_drop]; have := HL.out.1; simp; omega, sorted_insert HL.out.2.1 j HX.out.1 HX.out.2.1, ho3.mono (Nat.le_trans HB.out.2.size HX.out.2.2.2.size), HB.out.2.trans ((HX.out.2.2.2.trans (hB3.mono HX.out.2.2.2.size)).mono HB.out.2.size)⟩
          case measure => simp [intOf]; omega
    · obtain rfl : k = n := by omega
      have HX := Lib.hid (And.intro hlen (And.intro hso (And.intro hown hbel)))
      clear hlen hso hown hbel hN3 hc3
      go_wp2
      go_ret
      have ho := HX.out.2.2.1
      rw [HX.out.1] at ho
      exact ⟨_, l, rfl, HX.out.1, HX.out.2.1, ho, HX.out.2.2.2⟩
end Go.Proofs.Ytojplcchoffapaa
