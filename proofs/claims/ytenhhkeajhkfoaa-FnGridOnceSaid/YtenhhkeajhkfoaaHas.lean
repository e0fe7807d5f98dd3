/- The contracts of the laws' function has. Conditions: none. -/
import Derived.Test.YtenhhkeajhkfoaaTell
namespace Go.Proofs.Ytenhhkeajhkfoaa
open Go.RowKit

theorem told0 (v0 v1 v2 v3 v4 v5 v6 : Value) (w : World) : (Instr.field 60 (.agg #[v0, v1, v2, v3, v4, v5, v6]) 0).run Try.prog w = .ok v0 w := by kernel_rfl
theorem told1 (v0 v1 v2 v3 v4 v5 v6 : Value) (w : World) : (Instr.field 60 (.agg #[v0, v1, v2, v3, v4, v5, v6]) 1).run Try.prog w = .ok v1 w := by kernel_rfl
theorem told2 (v0 v1 v2 v3 v4 v5 v6 : Value) (w : World) : (Instr.field 60 (.agg #[v0, v1, v2, v3, v4, v5, v6]) 2).run Try.prog w = .ok v2 w := by kernel_rfl
theorem told3 (v0 v1 v2 v3 v4 v5 v6 : Value) (w : World) : (Instr.field 60 (.agg #[v0, v1, v2, v3, v4, v5, v6]) 3).run Try.prog w = .ok v3 w := by kernel_rfl
theorem told4 (v0 v1 v2 v3 v4 v5 v6 : Value) (w : World) : (Instr.field 60 (.agg #[v0, v1, v2, v3, v4, v5, v6]) 4).run Try.prog w = .ok v4 w := by kernel_rfl
theorem told5 (v0 v1 v2 v3 v4 v5 v6 : Value) (w : World) : (Instr.field 60 (.agg #[v0, v1, v2, v3, v4, v5, v6]) 5).run Try.prog w = .ok (.agg #[v5, v6]) w := by kernel_rfl
theorem ptfield0 (v0 v1 : Value) (w : World) : (Instr.field 29 (.agg #[v0, v1]) 0).run Try.prog w = .ok v0 w := by kernel_rfl
theorem ptfield1 (v0 v1 : Value) (w : World) : (Instr.field 29 (.agg #[v0, v1]) 1).run Try.prog w = .ok v1 w := by kernel_rfl

set_option maxHeartbeats 1000000 in
theorem has_any (a b c d x y : Int) (w : World) : Calls Try.prog 35 #[.agg #[.int .i64 a, .int .i64 b, .int .i64 c, .int .i64 d], .int .i64 x, .int .i64 y] w fun e w' => e = .returned (.bool (inB x y a b c d)) ∧ Below w.heap.size w w' := by
  have hf := told0
  go_enter Try.func35, Try.ntmps35
  go_wp2_with (go_at_call 37; refine (tell_any _ _ _ _ _ _ _ _ _ _ _).mono ?_; rintro _ w1 ⟨rfl, hb1⟩)
  go_ret
  exact ⟨rfl, ((Below.refl _ _).alloc (Nat.le_refl _) _).trans (hb1.mono (by simp))⟩
end Go.Proofs.Ytenhhkeajhkfoaa
