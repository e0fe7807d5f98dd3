/- Plain laws: which points a list's running intersections and unions have. No program in sight. Conditions: none. -/
import Derived.Test.YtojplcchoffapaaPlainCut
namespace Go.Proofs.Ytojplcchoffapaa

def allIn (l : List R) (x y : Int) (k : Nat) : Bool := (l.take k).all fun r => r.has x y
theorem allIn_zero (l : List R) (x y : Int) : allIn l x y 0 = true := by simp [allIn]
theorem allIn_succ (l : List R) (x y : Int) (k : Nat) (h : k < l.length) : allIn l x y (k + 1) = (allIn l x y k && l[k].has x y) := by
  simp only [allIn, List.take_succ_eq_append_getElem h, List.all_append, List.all_cons, List.all_nil, Bool.and_true]

theorem has_inter (r s : R) (x y : Int) : (inter r s).has x y = (r.has x y && s.has x y) := by
  unfold inter
  by_cases hE : (core r s).empty = true
  · rw [if_pos hE]
    simp only [R.empty, emptyB_iff, core] at hE
    rw [Bool.eq_iff_iff]
    simp only [R.has, inB, Bool.and_eq_true, decide_eq_true_eq]
    revert hE
    repeat' split
    all_goals
      intro hE
      omega
  · rw [if_neg hE]
    rw [Bool.eq_iff_iff]
    simp only [R.has, inB, Bool.and_eq_true, decide_eq_true_eq]
    simp only [core]
    clear hE
    have e0 : (if r.x0 < s.x0 then s.x0 else r.x0) ≤ x ↔ r.x0 ≤ x ∧ s.x0 ≤ x := by split <;> omega
    have e1 : x < (if s.x1 < r.x1 then s.x1 else r.x1) ↔ x < r.x1 ∧ x < s.x1 := by split <;> omega
    have e2 : (if r.y0 < s.y0 then s.y0 else r.y0) ≤ y ↔ r.y0 ≤ y ∧ s.y0 ≤ y := by split <;> omega
    have e3 : y < (if s.y1 < r.y1 then s.y1 else r.y1) ↔ y < r.y1 ∧ y < s.y1 := by split <;> omega
    rw [e0, e1, e2, e3]
    clear e0 e1 e2 e3
    constructor
    · rintro ⟨⟨⟨⟨h1, h2⟩, h3, h4⟩, h5, h6⟩, h7, h8⟩
      exact ⟨⟨⟨⟨h1, h3⟩, h5⟩, h7⟩, ⟨⟨h2, h4⟩, h6⟩, h8⟩
    · rintro ⟨⟨⟨⟨h1, h3⟩, h5⟩, h7⟩, ⟨⟨h2, h4⟩, h6⟩, h8⟩
      exact ⟨⟨⟨⟨h1, h2⟩, h3, h4⟩, h5, h6⟩, h7, h8⟩

theorem has_acc_inter (l : List R) (x y : Int) (k : Nat) (h : k < l.length) : (acc inter (l.take (k + 1))).has x y = allIn l x y (k + 1) := by
  induction k with
  | zero =>
    rw [acc_first inter l h, allIn_succ l x y 0 h, allIn_zero, Bool.true_and]
  | succ k ih =>
    rw [acc_step inter l (k + 1) h (by omega), has_inter, ih (by omega), allIn_succ l x y (k + 1) h]
end Go.Proofs.Ytojplcchoffapaa
