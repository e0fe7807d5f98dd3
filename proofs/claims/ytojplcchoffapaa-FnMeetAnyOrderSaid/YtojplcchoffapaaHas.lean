/- The contracts of the laws' functions has, same and isEmpty. Conditions: none. -/
import Derived.Test.YtojplcchoffapaaTell
namespace Go.Proofs.Ytojplcchoffapaa
open Go.RowKit

theorem told0 (v0 v1 v2 v3 v4 v5 v6 : Value) (w : World) : (Instr.field 29 (.agg #[v0, v1, v2, v3, v4, v5, v6]) 0).run Try.prog w = .ok v0 w := by kernel_rfl
theorem told1 (v0 v1 v2 v3 v4 v5 v6 : Value) (w : World) : (Instr.field 29 (.agg #[v0, v1, v2, v3, v4, v5, v6]) 1).run Try.prog w = .ok v1 w := by kernel_rfl
theorem told2 (v0 v1 v2 v3 v4 v5 v6 : Value) (w : World) : (Instr.field 29 (.agg #[v0, v1, v2, v3, v4, v5, v6]) 2).run Try.prog w = .ok v2 w := by kernel_rfl
theorem told3 (v0 v1 v2 v3 v4 v5 v6 : Value) (w : World) : (Instr.field 29 (.agg #[v0, v1, v2, v3, v4, v5, v6]) 3).run Try.prog w = .ok v3 w := by kernel_rfl
theorem told4 (v0 v1 v2 v3 v4 v5 v6 : Value) (w : World) : (Instr.field 29 (.agg #[v0, v1, v2, v3, v4, v5, v6]) 4).run Try.prog w = .ok v4 w := by kernel_rfl
theorem told5 (v0 v1 v2 v3 v4 v5 v6 : Value) (w : World) : (Instr.field 29 (.agg #[v0, v1, v2, v3, v4, v5, v6]) 5).run Try.prog w = .ok (.agg #[v5, v6]) w := by kernel_rfl
theorem ptfield0 (v0 v1 : Value) (w : World) : (Instr.field 27 (.agg #[v0, v1]) 0).run Try.prog w = .ok v0 w := by kernel_rfl
theorem ptfield1 (v0 v1 : Value) (w : World) : (Instr.field 27 (.agg #[v0, v1]) 1).run Try.prog w = .ok v1 w := by kernel_rfl

set_option maxHeartbeats 1000000 in
theorem has_any (a b c d x y : Int) (w : World) : Calls Try.prog 17 #[.agg #[.int .i64 a, .int .i64 b, .int .i64 c, .int .i64 d], .int .i64 x, .int .i64 y] w fun e w' => e = .returned (.bool (inB x y a b c d)) ∧ Below w.heap.size w w' := by
  have hf := told0
  go_enter Try.func17, Try.ntmps17
  go_wp2_with (go_at_call 16; refine (tell_any _ _ _ _ _ _ _ _ _ _ _).mono ?_; rintro _ w1 ⟨rfl, hb1⟩)
  go_ret
  exact ⟨rfl, ((Below.refl _ _).alloc (Nat.le_refl _) _).trans (hb1.mono (by simp))⟩

set_option maxHeartbeats 1000000 in
theorem lsame_any (a b c d e f g h : Int) (w : World) : Calls Try.prog 26 #[.agg #[.int .i64 a, .int .i64 b, .int .i64 c, .int .i64 d], .agg #[.int .i64 e, .int .i64 f, .int .i64 g, .int .i64 h]] w fun x w' => x = .returned (.bool (sameB a b c d e f g h)) ∧ Below w.heap.size w w' := by
  have hf := told4
  go_enter Try.func26, Try.ntmps26
  go_wp2_with (go_at_call 16; refine (tell_any _ _ _ _ _ _ _ _ _ _ _).mono ?_; rintro _ w1 ⟨rfl, hb1⟩)
  go_ret
  exact ⟨rfl, (two_new _ _ _).trans (hb1.mono (by simp; omega))⟩

set_option maxHeartbeats 1000000 in
theorem lempty_any (a b c d : Int) (w : World) : Calls Try.prog 30 #[.agg #[.int .i64 a, .int .i64 b, .int .i64 c, .int .i64 d]] w fun x w' => x = .returned (.bool (emptyB a b c d)) ∧ Below w.heap.size w w' := by
  have hf := told3
  go_enter Try.func30, Try.ntmps30
  go_wp2_with (go_at_call 16; refine (tell_any _ _ _ _ _ _ _ _ _ _ _).mono ?_; rintro _ w1 ⟨rfl, hb1⟩)
  go_ret
  exact ⟨rfl, ((Below.refl _ _).alloc (Nat.le_refl _) _).trans (hb1.mono (by simp))⟩
end Go.Proofs.Ytojplcchoffapaa
