/- The contracts of Add, Sub, Inset and Canon. Conditions: none. -/
import Derived.Test.YtojplcchoffapaaLeaf3
namespace Go.Proofs.Ytojplcchoffapaa
open Go.RowKit

theorem heap_last2 (w : World) (A B : Obj) : ((w.alloc A).alloc B).heap[w.heap.size + 1]? = some B := heap_alloc2_new w A B
theorem heap_second4 (w : World) (A B C D : Obj) : ((((w.alloc A).alloc B).alloc C).alloc D).heap[w.heap.size + 1]? = some B := by
  rw [Below.heap_alloc _ _ _ (by simp), Below.heap_alloc _ _ _ (by simp)]
  exact heap_alloc2_new w A B

set_option maxHeartbeats 1000000 in
theorem add_any (a b c d x y : Int) (w : World) :
    Calls Try.prog 50 #[.agg #[.int .i64 a, .int .i64 b, .int .i64 c, .int .i64 d], .agg #[.int .i64 x, .int .i64 y]] w (RetR (addR ⟨a, b, c, d⟩ x y) w) := by
  go_enter Try.func50, Try.ntmps50
  go_wp2
  exact bodyPost_ret (results_cell_row rfl _ _ (w.heap.size + 2) _ _ _ _ rfl (heap_last3 _ _ _ _) Try.underlying61 rfl (by kernel_rfl)) rfl (RetR.mk rfl (three_new _ _ _ _))

set_option maxHeartbeats 1000000 in
theorem subp_any (a b c d x y : Int) (w : World) :
    Calls Try.prog 51 #[.agg #[.int .i64 a, .int .i64 b, .int .i64 c, .int .i64 d], .agg #[.int .i64 x, .int .i64 y]] w (RetR (subR ⟨a, b, c, d⟩ x y) w) := by
  go_enter Try.func51, Try.ntmps51
  go_wp2
  exact bodyPost_ret (results_cell_row rfl _ _ (w.heap.size + 2) _ _ _ _ rfl (heap_last3 _ _ _ _) Try.underlying61 rfl (by kernel_rfl)) rfl (RetR.mk rfl (three_new _ _ _ _))

set_option maxHeartbeats 1000000 in
theorem dx_at (a b c d : Int) (w : World) :
    Calls Try.prog 45 #[.agg #[.int .i64 a, .int .i64 b, .int .i64 c, .int .i64 d]] w fun e w' => e = .returned (.int .i64 (wrap64 (c - a))) ∧ w.alloc (.cells #[.int .i64 a, .int .i64 b, .int .i64 c, .int .i64 d] 61) = w' := by
  go_enter Try.func45, Try.ntmps45
  go_wp2
  go_ret
  exact ⟨rfl, rfl⟩
set_option maxHeartbeats 1000000 in
theorem dy_at (a b c d : Int) (w : World) :
    Calls Try.prog 46 #[.agg #[.int .i64 a, .int .i64 b, .int .i64 c, .int .i64 d]] w fun e w' => e = .returned (.int .i64 (wrap64 (d - b))) ∧ w.alloc (.cells #[.int .i64 a, .int .i64 b, .int .i64 c, .int .i64 d] 61) = w' := by
  go_enter Try.func46, Try.ntmps46
  go_wp2
  go_ret
  exact ⟨rfl, rfl⟩

theorem canon_is {a b c d m0 m1 m2 m3 : Int} (h0 : (c < a ∧ m0 = c ∧ m2 = a) ∨ (a ≤ c ∧ m0 = a ∧ m2 = c)) (h1 : (d < b ∧ m1 = d ∧ m3 = b) ∨ (b ≤ d ∧ m1 = b ∧ m3 = d)) : canonR ⟨a, b, c, d⟩ = ⟨m0, m1, m2, m3⟩ := by
  simp only [canonR, R.mk.injEq]
  refine ⟨?_, ?_, ?_, ?_⟩ <;> split <;> omega
set_option maxHeartbeats 1000000 in
theorem canon_any (a b c d : Int) (w : World) : Calls Try.prog 53 #[.agg #[.int .i64 a, .int .i64 b, .int .i64 c, .int .i64 d]] w (RetR (canonR ⟨a, b, c, d⟩) w) := by
  obtain ⟨q, hq⟩ : ∃ q, q = canonR ⟨a, b, c, d⟩ := ⟨_, rfl⟩
  rw [← hq]
  have HQ := Lib.hid hq
  clear hq
  go_enter Try.func53, Try.ntmps53
  go_wp2
  all_goals
    refine bodyPost_ret (results_cell_row rfl _ _ (w.heap.size + 1) _ _ _ _ rfl (heap_last2 _ _ _) Try.underlying61 rfl (by kernel_rfl)) rfl (RetR.mk (HQ.out.trans ?_) (two_new _ _ _))
    exact canon_is (by omega) (by omega)

theorem inset_is {a b c d n m0 m1 m2 m3 : Int} (h0 : m0 = insLo a c n) (h1 : m1 = insLo b d n) (h2 : m2 = insHi a c n) (h3 : m3 = insHi b d n) : insetR ⟨a, b, c, d⟩ n = ⟨m0, m1, m2, m3⟩ := by
  subst h0 h1 h2 h3
  rfl
set_option maxHeartbeats 2000000 in
theorem inset_any (a b c d n : Int) (w : World) : Calls Try.prog 52 #[.agg #[.int .i64 a, .int .i64 b, .int .i64 c, .int .i64 d], .int .i64 n] w (RetR (insetR ⟨a, b, c, d⟩ n) w) := by
  obtain ⟨q, hq⟩ : ∃ q, q = insetR ⟨a, b, c, d⟩ n := ⟨_, rfl⟩
  rw [← hq]
  have HQ := Lib.hid hq
  clear hq
  by_cases hx : wrap64 (c - a) < wrap64 (2 * n)
  · by_cases hy : wrap64 (d - b) < wrap64 (2 * n)
    · go_enter Try.func52, Try.ntmps52
      go_wp2_with (first | (go_at_call 45; refine (dx_at _ _ _ _ _).mono ?_; rintro x w' ⟨rfl, rfl⟩) | (go_at_call 46; refine (dy_at _ _ _ _ _).mono ?_; rintro x w' ⟨rfl, rfl⟩))
      refine bodyPost_ret (results_cell_row rfl _ _ (w.heap.size + 1) _ _ _ _ rfl (heap_second4 _ _ _ _ _) Try.underlying61 rfl (by kernel_rfl)) rfl (RetR.mk (HQ.out.trans ?_) (four_new _ _ _ _ _))
      exact inset_is (by simp only [insLo, if_pos hx]) (by simp only [insLo, if_pos hy]) (by simp only [insHi, if_pos hx]) (by simp only [insHi, if_pos hy])
    · go_enter Try.func52, Try.ntmps52
      go_wp2_with (first | (go_at_call 45; refine (dx_at _ _ _ _ _).mono ?_; rintro x w' ⟨rfl, rfl⟩) | (go_at_call 46; refine (dy_at _ _ _ _ _).mono ?_; rintro x w' ⟨rfl, rfl⟩))
      refine bodyPost_ret (results_cell_row rfl _ _ (w.heap.size + 1) _ _ _ _ rfl (heap_second4 _ _ _ _ _) Try.underlying61 rfl (by kernel_rfl)) rfl (RetR.mk (HQ.out.trans ?_) (four_new _ _ _ _ _))
      exact inset_is (by simp only [insLo, if_pos hx]) (by simp only [insLo, if_neg (Int.not_lt.2 hy)]) (by simp only [insHi, if_pos hx]) (by simp only [insHi, if_neg (Int.not_lt.2 hy)])
  · by_cases hy : wrap64 (d - b) < wrap64 (2 * n)
    · go_enter Try.func52, Try.ntmps52
      go_wp2_with (first | (go_at_call 45; refine (dx_at _ _ _ _ _).mono ?_; rintro x w' ⟨rfl, rfl⟩) | (go_at_call 46; refine (dy_at _ _ _ _ _).mono ?_; rintro x w' ⟨rfl, rfl⟩))
      refine bodyPost_ret (results_cell_row rfl _ _ (w.heap.size + 1) _ _ _ _ rfl (heap_second4 _ _ _ _ _) Try.underlying61 rfl (by kernel_rfl)) rfl (RetR.mk (HQ.out.trans ?_) (four_new _ _ _ _ _))
      exact inset_is (by simp only [insLo, if_neg (Int.not_lt.2 hx)]) (by simp only [insLo, if_pos hy]) (by simp only [insHi, if_neg (Int.not_lt.2 hx)]) (by simp only [insHi, if_pos hy])
    · go_enter Try.func52, Try.ntmps52
      go_wp2_with (first | (go_at_call 45; refine (dx_at _ _ _ _ _).mono ?_; rintro x w' ⟨rfl, rfl⟩) | (go_at_call 46; refine (dy_at _ _ _ _ _).mono ?_; rintro x w' ⟨rfl, rfl⟩))
      refine bodyPost_ret (results_cell_row rfl _ _ (w.heap.size + 1) _ _ _ _ rfl (heap_second4 _ _ _ _ _) Try.underlying61 rfl (by kernel_rfl)) rfl (RetR.mk (HQ.out.trans ?_) (four_new _ _ _ _ _))
      exact inset_is (by simp only [insLo, if_neg (Int.not_lt.2 hx)]) (by simp only [insLo, if_neg (Int.not_lt.2 hy)]) (by simp only [insHi, if_neg (Int.not_lt.2 hx)]) (by simp only [insHi, if_neg (Int.not_lt.2 hy)])
end Go.Proofs.Ytojplcchoffapaa
