/- The contracts of the laws' functions turned, mirrored, moved, wellFormed. Conditions: none. -/
import Derived.Test.YtenhhkeajhkfoaaLeaf3
namespace Go.Proofs.Ytenhhkeajhkfoaa
open Go.RowKit

set_option maxHeartbeats 1000000 in
theorem turned_any (a b c d : Int) (w : World) :
    Calls Try.prog 27 #[.agg #[.int .i64 a, .int .i64 b, .int .i64 c, .int .i64 d]] w fun e w' => e = .returned (.agg #[.int .i64 b, .int .i64 a, .int .i64 d, .int .i64 c]) ∧ Below w.heap.size w w' := by
  go_enter Try.func27, Try.ntmps27
  go_wp2
  refine bodyPost_ret (v := .agg #[.int .i64 b, .int .i64 a, .int .i64 d, .int .i64 c]) (by simp [results, Try.results27, go_sem]) rfl ⟨rfl, ?_⟩
  exact two_new _ _ _

def mirR (r : R) : R := ⟨wrap64 (-r.x1), wrap64 (-r.y1), wrap64 (-r.x0), wrap64 (-r.y0)⟩
set_option maxHeartbeats 1000000 in
theorem mirrored_any (a b c d : Int) (w : World) :
    Calls Try.prog 19 #[.agg #[.int .i64 a, .int .i64 b, .int .i64 c, .int .i64 d]] w fun e w' => e = .returned (.agg #[.int .i64 (wrap64 (-c)), .int .i64 (wrap64 (-d)), .int .i64 (wrap64 (-a)), .int .i64 (wrap64 (-b))]) ∧ Below w.heap.size w w' := by
  go_enter Try.func19, Try.ntmps19
  go_wp2
  refine bodyPost_ret (v := .agg #[.int .i64 (wrap64 (-c)), .int .i64 (wrap64 (-d)), .int .i64 (wrap64 (-a)), .int .i64 (wrap64 (-b))]) (by simp [results, Try.results19, go_sem]; try rfl) rfl ⟨rfl, ?_⟩
  exact two_new _ _ _

set_option maxHeartbeats 1000000 in
theorem moved_any (a b c d x y : Int) (w : World) :
    Calls Try.prog 23 #[.agg #[.int .i64 a, .int .i64 b, .int .i64 c, .int .i64 d], .int .i64 x, .int .i64 y] w fun e w' => e = .returned (.agg #[.int .i64 (wrap64 (a + x)), .int .i64 (wrap64 (b + y)), .int .i64 (wrap64 (c + x)), .int .i64 (wrap64 (d + y))]) ∧ Below w.heap.size w w' := by
  go_enter Try.func23, Try.ntmps23
  go_wp2
  refine bodyPost_ret (v := .agg #[.int .i64 (wrap64 (a + x)), .int .i64 (wrap64 (b + y)), .int .i64 (wrap64 (c + x)), .int .i64 (wrap64 (d + y))]) (by simp [results, Try.results23, go_sem]; try rfl) rfl ⟨rfl, ?_⟩
  exact two_new _ _ _

def R.wf (r : R) : Bool := decide (r.x0 ≤ r.x1) && decide (r.y0 ≤ r.y1)
set_option maxHeartbeats 1000000 in
theorem wellFormed_any (a b c d : Int) (w : World) :
    Calls Try.prog 18 #[.agg #[.int .i64 a, .int .i64 b, .int .i64 c, .int .i64 d]] w fun e w' => e = .returned (.bool (R.wf ⟨a, b, c, d⟩)) ∧ Below w.heap.size w w' := by
  go_enter Try.func18, Try.ntmps18
  by_cases h : a ≤ c
  · by_cases h2 : b ≤ d
    · go_wp2
      go_ret
      exact ⟨by simp [R.wf, h, h2], (Below.refl _ _).alloc (Nat.le_refl _) _⟩
    · go_wp2
      go_ret
      exact ⟨by simp [R.wf, h, h2], (Below.refl _ _).alloc (Nat.le_refl _) _⟩
  · go_wp2
    go_ret
    exact ⟨by simp only [R.wf]; rw [decide_eq_false (by omega)]; rfl, (Below.refl _ _).alloc (Nat.le_refl _) _⟩
end Go.Proofs.Ytenhhkeajhkfoaa
