/- The contracts of In, Overlaps and Eq of two rectangles. Conditions: none. -/
import Derived.Test.YtojplcchoffapaaLeaf
namespace Go.Proofs.Ytojplcchoffapaa
open Go.RowKit

theorem two_new (w : World) (o o' : Obj) : Below w.heap.size w ((w.alloc o).alloc o') := ((Below.refl _ _).alloc (Nat.le_refl _) _).alloc (by simp) _
theorem three_new (w : World) (o o' o'' : Obj) : Below w.heap.size w (((w.alloc o).alloc o').alloc o'') := (two_new w o o').alloc (by simp; omega) _
theorem four_new (w : World) (o o' o'' p : Obj) : Below w.heap.size w ((((w.alloc o).alloc o').alloc o'').alloc p) := (three_new w o o' o'').alloc (by simp; omega) _

set_option maxHeartbeats 1000000 in
theorem sub_any (a b c d e f g h : Int) (w : World) :
    Calls Try.prog 35 #[.agg #[.int .i64 a, .int .i64 b, .int .i64 c, .int .i64 d], .agg #[.int .i64 e, .int .i64 f, .int .i64 g, .int .i64 h]] w fun x w' => x = .returned (.bool (subB a b c d e f g h)) ∧ Below w.heap.size w w' := by
  by_cases h0 : emptyB a b c d = true
  · have e1 : subB a b c d e f g h = true := by simp [subB, h0]
    rw [e1]
    clear e1
    go_enter Try.func35, Try.ntmps35
    go_wp2_with (go_at_call 37; refine (empty_at _ _ _ _ _).mono ?_; rintro x w' ⟨rfl, rfl⟩)
    go_ret
    exact ⟨rfl, three_new _ _ _ _⟩
  · have h0 : emptyB a b c d = false := by simpa using h0
    have key : subB a b c d e f g h = (decide (e ≤ a) && decide (c ≤ g) && decide (f ≤ b) && decide (d ≤ h)) := by simp [subB, h0]
    by_cases h1 : e ≤ a
    · by_cases h2 : c ≤ g
      · by_cases h3 : f ≤ b
        · have e1 : subB a b c d e f g h = decide (d ≤ h) := by simp [key, h1, h2, h3]
          rw [e1]
          clear e1 key
          go_enter Try.func35, Try.ntmps35
          go_wp2_with (go_at_call 37; refine (empty_at _ _ _ _ _).mono ?_; rintro x w' ⟨rfl, rfl⟩)
          go_ret
          exact ⟨rfl, three_new _ _ _ _⟩
        · have e1 : subB a b c d e f g h = false := by simp [key, h3]
          rw [e1]
          clear e1 key
          go_enter Try.func35, Try.ntmps35
          go_wp2_with (go_at_call 37; refine (empty_at _ _ _ _ _).mono ?_; rintro x w' ⟨rfl, rfl⟩)
          go_ret
          exact ⟨rfl, three_new _ _ _ _⟩
      · have e1 : subB a b c d e f g h = false := by simp [key, h2]
        rw [e1]
        clear e1 key
        go_enter Try.func35, Try.ntmps35
        go_wp2_with (go_at_call 37; refine (empty_at _ _ _ _ _).mono ?_; rintro x w' ⟨rfl, rfl⟩)
        go_ret
        exact ⟨rfl, three_new _ _ _ _⟩
    · have e1 : subB a b c d e f g h = false := by simp [key, h1]
      rw [e1]
      clear e1 key
      go_enter Try.func35, Try.ntmps35
      go_wp2_with (go_at_call 37; refine (empty_at _ _ _ _ _).mono ?_; rintro x w' ⟨rfl, rfl⟩)
      go_ret
      exact ⟨rfl, three_new _ _ _ _⟩

theorem ret_bool {a b : Bool} (h : a = b) : Ending.returned (.bool a) = .returned (.bool b) := by rw [h]

set_option maxHeartbeats 1000000 in
theorem same_any (a b c d e f g h : Int) (w : World) :
    Calls Try.prog 38 #[.agg #[.int .i64 a, .int .i64 b, .int .i64 c, .int .i64 d], .agg #[.int .i64 e, .int .i64 f, .int .i64 g, .int .i64 h]] w fun x w' => x = .returned (.bool (sameB a b c d e f g h)) ∧ Below w.heap.size w w' := by
  go_enter Try.func38, Try.ntmps38
  go_wp2_with (go_at_call 37; refine (empty_at _ _ _ _ _).mono ?_; rintro x w' ⟨rfl, rfl⟩)
  all_goals
    go_ret
    refine ⟨ret_bool (by simp [sameB, *]), by first | exact two_new _ _ _ | exact three_new _ _ _ _ | exact four_new _ _ _ _ _⟩

set_option maxHeartbeats 1000000 in
theorem over_any (a b c d e f g h : Int) (w : World) :
    Calls Try.prog 36 #[.agg #[.int .i64 a, .int .i64 b, .int .i64 c, .int .i64 d], .agg #[.int .i64 e, .int .i64 f, .int .i64 g, .int .i64 h]] w fun x w' => x = .returned (.bool (overB a b c d e f g h)) ∧ Below w.heap.size w w' := by
  go_enter Try.func36, Try.ntmps36
  go_wp2_with (go_at_call 37; refine (empty_at _ _ _ _ _).mono ?_; rintro x w' ⟨rfl, rfl⟩)
  all_goals
    go_ret
    refine ⟨ret_bool (by first | (simp [overB, *]; done) | (simp [overB, *]; omega)), by first | exact two_new _ _ _ | exact three_new _ _ _ _ | exact four_new _ _ _ _ _⟩
end Go.Proofs.Ytojplcchoffapaa
