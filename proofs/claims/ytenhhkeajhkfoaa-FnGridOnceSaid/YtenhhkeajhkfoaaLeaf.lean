/- The contracts of the library's small functions on rectangles and points. Conditions: none. -/
import Derived.Test.YtenhhkeajhkfoaaProg
import Derived.Test.YtenhhkeajhkfoaaPlain
import Derived.WalkKit
import Derived.WalkLawsBesides
import Derived.WalkSpells
import Derived.Outline
import Derived.Lib.Hide
namespace Go.Proofs.Ytenhhkeajhkfoaa
open Go.RowKit

set_option maxHeartbeats 400000 in
theorem rectangle_any (a b c d : Int) (w : World) :
    Calls Try.prog 39 #[.agg #[.int .i64 a, .int .i64 b, .int .i64 c, .int .i64 d]] w fun e w' => e = .returned (.agg #[.int .i64 a, .int .i64 b, .int .i64 c, .int .i64 d]) ∧ Below w.heap.size w w' := by
  go_enter Try.func39, Try.ntmps39
  go_wp2
  refine bodyPost_ret (v := .agg #[.int .i64 a, .int .i64 b, .int .i64 c, .int .i64 d]) (by simp [results, Try.results39, go_sem]) rfl ⟨rfl, ?_⟩
  exact ((Below.refl _ _).alloc (Nat.le_refl _) _).alloc (by simp) _

set_option maxHeartbeats 400000 in
theorem rect_any (a b c d : Int) (w : World) :
    Calls Try.prog 41 #[.agg #[.int .i64 a, .int .i64 b, .int .i64 c, .int .i64 d]] w fun e w' => e = .returned (.agg #[.int .i64 a, .int .i64 b, .int .i64 c, .int .i64 d]) ∧ Below w.heap.size w w' := by
  go_enter Try.func41, Try.ntmps41
  go_wp2
  refine bodyPost_ret (v := .agg #[.int .i64 a, .int .i64 b, .int .i64 c, .int .i64 d]) (by simp [results, Try.results41, go_sem]) rfl ⟨rfl, ?_⟩
  exact ((Below.refl _ _).alloc (Nat.le_refl _) _).alloc (by simp) _

set_option maxHeartbeats 400000 in
theorem point_any (a b : Int) (w : World) :
    Calls Try.prog 45 #[.agg #[.int .i64 a, .int .i64 b]] w fun e w' => e = .returned (.agg #[.int .i64 a, .int .i64 b]) ∧ Below w.heap.size w w' := by
  go_enter Try.func45, Try.ntmps45
  go_wp2
  refine bodyPost_ret (v := .agg #[.int .i64 a, .int .i64 b]) (by simp [results, Try.results45, go_sem]) rfl ⟨rfl, ?_⟩
  exact ((Below.refl _ _).alloc (Nat.le_refl _) _).alloc (by simp) _

set_option maxHeartbeats 400000 in
theorem empty_at (a b c d : Int) (w : World) :
    Calls Try.prog 49 #[.agg #[.int .i64 a, .int .i64 b, .int .i64 c, .int .i64 d]] w fun e w' => e = .returned (.bool (emptyB a b c d)) ∧ w.alloc (.cells #[.int .i64 a, .int .i64 b, .int .i64 c, .int .i64 d] 67) = w' := by
  by_cases h : c ≤ a
  · have e1 : emptyB a b c d = true := by simp [emptyB, h]
    rw [e1]
    clear e1
    go_enter Try.func49, Try.ntmps49
    go_wp2
    go_ret
    exact ⟨rfl, rfl⟩
  · have e1 : emptyB a b c d = decide (d ≤ b) := by simp [emptyB, h]
    rw [e1]
    clear e1
    go_enter Try.func49, Try.ntmps49
    go_wp2
    go_ret
    exact ⟨rfl, rfl⟩
theorem empty_any (a b c d : Int) (w : World) :
    Calls Try.prog 49 #[.agg #[.int .i64 a, .int .i64 b, .int .i64 c, .int .i64 d]] w fun e w' => e = .returned (.bool (emptyB a b c d)) ∧ Below w.heap.size w w' :=
  (empty_at a b c d w).mono fun _ _ ⟨h1, h2⟩ => ⟨h1, h2 ▸ (Below.refl _ _).alloc (Nat.le_refl _) _⟩

set_option maxHeartbeats 400000 in
theorem size_any (a b c d : Int) (w : World) :
    Calls Try.prog 44 #[.agg #[.int .i64 a, .int .i64 b, .int .i64 c, .int .i64 d]] w fun e w' => e = .returned (.agg #[.int .i64 (wrap64 (c - a)), .int .i64 (wrap64 (d - b))]) ∧ Below w.heap.size w w' := by
  go_enter Try.func44, Try.ntmps44
  go_wp2
  refine bodyPost_ret (v := .agg #[.int .i64 (wrap64 (c - a)), .int .i64 (wrap64 (d - b))]) (by simp [results, Try.results44, go_sem]) rfl ⟨rfl, ?_⟩
  exact ((Below.refl _ _).alloc (Nat.le_refl _) _).alloc (by simp) _

set_option maxHeartbeats 1000000 in
theorem in_any (x y a b c d : Int) (w : World) :
    Calls Try.prog 46 #[.agg #[.int .i64 x, .int .i64 y], .agg #[.int .i64 a, .int .i64 b, .int .i64 c, .int .i64 d]] w fun e w' => e = .returned (.bool (inB x y a b c d)) ∧ Below w.heap.size w w' := by
  have hb : ∀ o o', Below w.heap.size w ((w.alloc o).alloc o') := fun _ _ => ((Below.refl _ _).alloc (Nat.le_refl _) _).alloc (by simp) _
  have HB := Lib.hid hb
  clear hb
  by_cases h1 : a ≤ x
  · by_cases h2 : x < c
    · by_cases h3 : b ≤ y
      · have e1 : inB x y a b c d = decide (y < d) := by simp [inB, h1, h2, h3]
        rw [e1]
        clear e1
        go_enter Try.func46, Try.ntmps46
        go_wp2
        go_ret
        exact ⟨rfl, HB.out _ _⟩
      · have e1 : inB x y a b c d = false := by simp [inB, h3]
        rw [e1]
        clear e1
        go_enter Try.func46, Try.ntmps46
        go_wp2
        go_ret
        exact ⟨rfl, HB.out _ _⟩
    · have e1 : inB x y a b c d = false := by simp [inB, h2]
      rw [e1]
      clear e1
      go_enter Try.func46, Try.ntmps46
      go_wp2
      go_ret
      exact ⟨rfl, HB.out _ _⟩
  · have e1 : inB x y a b c d = false := by simp [inB, h1]
    rw [e1]
    clear e1
    go_enter Try.func46, Try.ntmps46
    go_wp2
    go_ret
    exact ⟨rfl, HB.out _ _⟩
end Go.Proofs.Ytenhhkeajhkfoaa
