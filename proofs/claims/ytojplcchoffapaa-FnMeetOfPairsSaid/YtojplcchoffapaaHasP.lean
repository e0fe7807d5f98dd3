/- The contract of the reference's function HasPoints. Conditions: none. -/
import Derived.Test.YtojplcchoffapaaNums
import Derived.Test.YtojplcchoffapaaAts
namespace Go.Proofs.Ytojplcchoffapaa
open Go.RowKit

set_option maxHeartbeats 1000000 in
theorem haspoints_any (g : Nat) (a b c d : Int) (w : World) (hg : At w g 3 [.int .i64 a, .int .i64 b, .int .i64 c, .int .i64 d]) :
    Calls Try.prog 18 #[.slice (some ⟨g, 0, none⟩) 4 4] w fun e w' => e = .returned (.bool (!emptyB a b c d)) ∧ Below w.heap.size w w' := by
  obtain ⟨c0, c1, c2, c3⟩ := hg.four.1
  clear hg
  by_cases h : a < c
  · go_enter Try.func18, Try.ntmps18
    go_wp2
    go_region
    go_wp2
    go_ret
    exact ⟨ret_bool (by simp only [emptyB]; rw [decide_eq_false (show ¬ c ≤ a by omega), Bool.false_or, Bool.eq_iff_iff]; simp), (Below.refl _ _).drew⟩
  · have hd : decide (a < c) = false := decide_eq_false h
    go_enter Try.func18, Try.ntmps18
    go_wp2
    go_region
    go_wp2
    go_ret
    exact ⟨ret_bool (by simp only [emptyB]; rw [decide_eq_true (show c ≤ a by omega)]; rfl), (Below.refl _ _).drew⟩
end Go.Proofs.Ytojplcchoffapaa
