/- Plain laws: union and intersection are associative, and what follows for a list that is cut in two. No program in sight. Conditions: none. -/
import Derived.Test.YtojplcchoffapaaAcc
namespace Go.Proofs.Ytojplcchoffapaa

theorem emptyB_iff (a b c d : Int) : emptyB a b c d = true ↔ c ≤ a ∨ d ≤ b := by simp [emptyB]
theorem emptyB_not (a b c d : Int) : emptyB a b c d = false ↔ a < c ∧ b < d := by
  simp only [emptyB, Bool.or_eq_false_iff, decide_eq_false_iff_not]
  omega
theorem R.ext' {r s : R} (h0 : r.x0 = s.x0) (h1 : r.y0 = s.y0) (h2 : r.x1 = s.x1) (h3 : r.y1 = s.y1) : r = s := by
  cases r
  cases s
  simp_all

theorem core_assoc (a b c : R) : core (core a b) c = core a (core b c) := by
  apply R.ext' <;> simp only [core] <;> (repeat' split) <;> omega
theorem core_empty_left {a b c : R} (h : (core a b).empty = true) : (core a (core b c)).empty = true := by
  simp only [R.empty, emptyB_iff, core] at h ⊢
  rcases h with h | h
  · left
    revert h
    (repeat' split) <;> omega
  · right
    revert h
    (repeat' split) <;> omega
theorem core_empty_right {a b c : R} (h : (core b c).empty = true) : (core a (core b c)).empty = true := by
  simp only [R.empty, emptyB_iff, core] at h ⊢
  rcases h with h | h
  · left
    revert h
    (repeat' split) <;> omega
  · right
    revert h
    (repeat' split) <;> omega
theorem core_zero_left (c : R) : (core ⟨0, 0, 0, 0⟩ c).empty = true := by
  simp only [R.empty, emptyB_iff, core]
  left
  (repeat' split) <;> omega
theorem core_zero_right (c : R) : (core c ⟨0, 0, 0, 0⟩).empty = true := by
  simp only [R.empty, emptyB_iff, core]
  left
  (repeat' split) <;> omega

theorem inter_assoc (a b c : R) : inter (inter a b) c = inter a (inter b c) := by
  by_cases h1 : (core a b).empty = true
  · have e1 : inter a b = ⟨0, 0, 0, 0⟩ := by simp [inter, h1]
    have e2 : inter ⟨0, 0, 0, 0⟩ c = ⟨0, 0, 0, 0⟩ := by simp [inter, core_zero_left]
    rw [e1, e2]
    by_cases h2 : (core b c).empty = true
    · have e3 : inter b c = ⟨0, 0, 0, 0⟩ := by simp [inter, h2]
      rw [e3]
      simp [inter, core_zero_right]
    · have e3 : inter b c = core b c := by simp [inter, h2]
      rw [e3]
      simp [inter, core_empty_left h1]
  · have e1 : inter a b = core a b := by simp [inter, h1]
    rw [e1]
    by_cases h2 : (core b c).empty = true
    · have e3 : inter b c = ⟨0, 0, 0, 0⟩ := by simp [inter, h2]
      rw [e3]
      have h3 : (core (core a b) c).empty = true := by rw [core_assoc]; exact core_empty_right h2
      simp [inter, core_zero_right, h3]
    · have e3 : inter b c = core b c := by simp [inter, h2]
      rw [e3]
      unfold inter
      rw [core_assoc]

theorem hull_empty {a b : R} (ha : a.empty = false) (hb : b.empty = false) : (hull a b).empty = false := by
  simp only [R.empty, emptyB_not, hull] at ha hb ⊢
  constructor <;> (repeat' split) <;> omega
theorem hull_assoc (a b c : R) : hull (hull a b) c = hull a (hull b c) := by
  apply R.ext' <;> simp only [hull] <;> (repeat' split) <;> omega
theorem union_assoc (a b c : R) : union (union a b) c = union a (union b c) := by
  cases ha : a.empty with
  | true => simp [union, ha]
  | false =>
    cases hb : b.empty with
    | true => simp [union, ha, hb]
    | false =>
      cases hc : c.empty with
      | true => simp [union, ha, hb, hc, hull_empty ha hb]
      | false => simp [union, ha, hb, hc, hull_empty ha hb, hull_empty hb hc, hull_assoc]

theorem foldl_assoc {f : R → R → R} (hf : ∀ a b c, f (f a b) c = f a (f b c)) (x y : R) (l : List R) : l.foldl f (f x y) = f x (l.foldl f y) := by
  induction l generalizing y with
  | nil => rfl
  | cons z l ih => rw [List.foldl_cons, List.foldl_cons, hf, ih]
theorem acc_append {f : R → R → R} (hf : ∀ a b c, f (f a b) c = f a (f b c)) {l m : List R} (hl : l ≠ []) (hm : m ≠ []) : acc f (l ++ m) = f (acc f l) (acc f m) := by
  cases l with
  | nil => exact absurd rfl hl
  | cons x l =>
    cases m with
    | nil => exact absurd rfl hm
    | cons y m => simp only [acc, List.cons_append, List.foldl_append, List.foldl_cons]; exact foldl_assoc hf _ _ _
theorem accs_last (f : R → R → R) (l : List R) (k : Nat) (hk : k + 1 = l.length) {v : R} (hv : acc f l = v) : (accs f l l.length)[k]'(by rw [accs_length]; omega) = v := by
  rw [accs_get f l l.length k (by omega), hk, List.take_length]
  exact hv
theorem same_refl (r : R) : r.same r = true := by simp [R.same, sameB]
end Go.Proofs.Ytojplcchoffapaa
