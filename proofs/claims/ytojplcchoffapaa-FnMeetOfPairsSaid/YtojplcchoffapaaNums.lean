/- The contracts of the laws' function numbers and of the reference's functions Has and HasPoints. Conditions: none. -/
import Derived.Test.YtojplcchoffapaaHas
import Derived.Test.YtojplcchoffapaaRegion
import Derived.BigQuiet
import Derived.Deep.QuietTactic
namespace Go.Proofs.Ytojplcchoffapaa
open Go.RowKit

/-- it returns a new slice of four numbers -/
def RetN (a b c d : Int) (w : World) (e : Ending) (w' : World) : Prop := ∃ g, e = .returned (.slice (some ⟨g, 0, none⟩) 4 4) ∧ At w' g 3 [.int .i64 a, .int .i64 b, .int .i64 c, .int .i64 d] ∧ Below w.heap.size w w'

set_option maxHeartbeats 1000000 in
theorem numbers_any (a b c d : Int) (w : World) : Calls Try.prog 19 #[.agg #[.int .i64 a, .int .i64 b, .int .i64 c, .int .i64 d]] w (RetN a b c d w) := by
  go_enter Try.func19, Try.ntmps19
  go_wp2
  go_ret
  refine ⟨_, rfl, ?_, ?_⟩
  · (repeat first | exact At.new' _ _ _ (by first | rfl | (simp only [size_alloc])) | refine At.drew ?_ | refine At.alloc ?_ _)
  · (repeat first | exact Below.refl _ _ | refine Below.drew ?_ | refine Below.alloc ?_ (by first | exact Nat.le_refl _ | (simp only [size_alloc]; omega)) _)

set_option maxHeartbeats 1000000 in
theorem Has_any (g : Nat) (a b c d x y : Int) (w : World) (hg : At w g 3 [.int .i64 a, .int .i64 b, .int .i64 c, .int .i64 d]) :
    Calls Try.prog 22 #[.slice (some ⟨g, 0, none⟩) 4 4, .int .i64 x, .int .i64 y] w fun e w' => e = .returned (.bool (inB x y a b c d)) ∧ w = w' := by
  obtain ⟨c0, c1, c2, c3⟩ := hg.four.1
  clear hg
  go_enter Try.func22, Try.ntmps22
  go_wp2
  all_goals
    go_ret
    exact ⟨ret_bool (by first | (simp [inB, *]; done) | (simp [inB, *]; omega)), rfl⟩
end Go.Proofs.Ytojplcchoffapaa
