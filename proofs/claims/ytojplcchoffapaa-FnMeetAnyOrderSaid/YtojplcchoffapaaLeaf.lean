/- The contracts of the library's small functions on rectangles and points. Conditions: none. -/
import Derived.Test.YtojplcchoffapaaProg
import Derived.Test.YtojplcchoffapaaPlain
import Derived.WalkKit
import Derived.WalkLawsBesides
import Derived.WalkSpells
import Derived.Outline
import Derived.Lib.Hide
namespace Go.Proofs.Ytojplcchoffapaa
open Go.RowKit

set_option maxHeartbeats 400000 in
theorem rectangle_any (a b c d : Int) (w : World) :
    Calls Try.prog 31 #[.agg #[.int .i64 a, .int .i64 b, .int .i64 c, .int .i64 d]] w fun e w' => e = .returned (.agg #[.int .i64 a, .int .i64 b, .int .i64 c, .int .i64 d]) ∧ Below w.heap.size w w' := by
  go_enter Try.func31, Try.ntmps31
  go_wp2
  refine bodyPost_ret (v := .agg #[.int .i64 a, .int .i64 b, .int .i64 c, .int .i64 d]) (by simp [results, Try.results31, go_sem]) rfl ⟨rfl, ?_⟩
  exact ((Below.refl _ _).alloc (Nat.le_refl _) _).alloc (by simp) _

set_option maxHeartbeats 400000 in
theorem rect_any (a b c d : Int) (w : World) :
    Calls Try.prog 42 #[.agg #[.int .i64 a, .int .i64 b, .int .i64 c, .int .i64 d]] w fun e w' => e = .returned (.agg #[.int .i64 a, .int .i64 b, .int .i64 c, .int .i64 d]) ∧ Below w.heap.size w w' := by
  go_enter Try.func42, Try.ntmps42
  go_wp2
  refine bodyPost_ret (v := .agg #[.int .i64 a, .int .i64 b, .int .i64 c, .int .i64 d]) (by simp [results, Try.results42, go_sem]) rfl ⟨rfl, ?_⟩
  exact ((Below.refl _ _).alloc (Nat.le_refl _) _).alloc (by simp) _

set_option maxHeartbeats 400000 in
theorem point_any (a b : Int) (w : World) :
    Calls Try.prog 33 #[.agg #[.int .i64 a, .int .i64 b]] w fun e w' => e = .returned (.agg #[.int .i64 a, .int .i64 b]) ∧ Below w.heap.size w w' := by
  go_enter Try.func33, Try.ntmps33
  go_wp2
  refine bodyPost_ret (v := .agg #[.int .i64 a, .int .i64 b]) (by simp [results, Try.results33, go_sem]) rfl ⟨rfl, ?_⟩
  exact ((Below.refl _ _).alloc (Nat.le_refl _) _).alloc (by simp) _

set_option maxHeartbeats 400000 in
theorem empty_at (a b c d : Int) (w : World) :
    Calls Try.prog 37 #[.agg #[.int .i64 a, .int .i64 b, .int .i64 c, .int .i64 d]] w fun e w' => e = .returned (.bool (emptyB a b c d)) ∧ w.alloc (.cells #[.int .i64 a, .int .i64 b, .int .i64 c, .int .i64 d] 61) = w' := by
  by_cases h : c ≤ a
  · have e1 : emptyB a b c d = true := by simp [emptyB, h]
    rw [e1]
    clear e1
    go_enter Try.func37, Try.ntmps37
    go_wp2
    go_ret
    exact ⟨rfl, rfl⟩
  · have e1 : emptyB a b c d = decide (d ≤ b) := by simp [emptyB, h]
    rw [e1]
    clear e1
    go_enter Try.func37, Try.ntmps37
    go_wp2
    go_ret
    exact ⟨rfl, rfl⟩
theorem empty_any (a b c d : Int) (w : World) :
    Calls Try.prog 37 #[.agg #[.int .i64 a, .int .i64 b, .int .i64 c, .int .i64 d]] w fun e w' => e = .returned (.bool (emptyB a b c d)) ∧ Below w.heap.size w w' :=
  (empty_at a b c d w).mono fun _ _ ⟨h1, h2⟩ => ⟨h1, h2 ▸ (Below.refl _ _).alloc (Nat.le_refl _) _⟩

set_option maxHeartbeats 400000 in
theorem size_any (a b c d : Int) (w : World) :
    Calls Try.prog 32 #[.agg #[.int .i64 a, .int .i64 b, .int .i64 c, .int .i64 d]] w fun e w' => e = .returned (.agg #[.int .i64 (wrap64 (c - a)), .int .i64 (wrap64 (d - b))]) ∧ Below w.heap.size w w' := by
  go_enter Try.func32, Try.ntmps32
  go_wp2
  refine bodyPost_ret (v := .agg #[.int .i64 (wrap64 (c - a)), .int .i64 (wrap64 (d - b))]) (by simp [results, Try.results32, go_sem]) rfl ⟨rfl, ?_⟩
  exact ((Below.refl _ _).alloc (Nat.le_refl _) _).alloc (by simp) _

set_option maxHeartbeats 1000000 in
theorem in_any (x y a b c d : Int) (w : World) :
    Calls Try.prog 34 #[.agg #[.int .i64 x, .int .i64 y], .agg #[.int .i64 a, .int .i64 b, .int .i64 c, .int .i64 d]] w fun e w' => e = .returned (.bool (inB x y a b c d)) ∧ Below w.heap.size w w' := by
  have hb : ∀ o o', Below w.heap.size w ((w.alloc o).alloc o') := fun _ _ => ((Below.refl _ _).alloc (Nat.le_refl _) _).alloc (by simp) _
  have HB := Lib.hid hb
  clear hb
  by_cases h1 : a ≤ x
  · by_cases h2 : x < c
    · by_cases h3 : b ≤ y
      · have e1 : inB x y a b c d = decide (y < d) := by simp [inB, h1, h2, h3]
        rw [e1]
        clear e1
        go_enter Try.func34, Try.ntmps34
        go_wp2
        go_ret
        exact ⟨rfl, HB.out _ _⟩
      · have e1 : inB x y a b c d = false := by simp [inB, h3]
        rw [e1]
        clear e1
        go_enter Try.func34, Try.ntmps34
        go_wp2
        go_ret
        exact ⟨rfl, HB.out _ _⟩
    · have e1 : inB x y a b c d = false := by simp [inB, h2]
      rw [e1]
      clear e1
      go_enter Try.func34, Try.ntmps34
      go_wp2
      go_ret
      exact ⟨rfl, HB.out _ _⟩
  · have e1 : inB x y a b c d = false := by simp [inB, h1]
    rw [e1]
    clear e1
    go_enter Try.func34, Try.ntmps34
    go_wp2
    go_ret
    exact ⟨rfl, HB.out _ _⟩
end Go.Proofs.Ytojplcchoffapaa
