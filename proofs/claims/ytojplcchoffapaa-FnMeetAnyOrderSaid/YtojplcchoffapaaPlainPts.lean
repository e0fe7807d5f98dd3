/- Plain laws: which points a list's running intersections and unions have. No program in sight. Conditions: none. -/
import Derived.Test.YtojplcchoffapaaPlainCut
namespace Go.Proofs.Ytojplcchoffapaa

def allIn (l : List R) (x y : Int) (k : Nat) : Bool := (l.take k).all fun r => r.has x y
theorem allIn_zero (l : List R) (x y : Int) : allIn l x y 0 = true := by simp [allIn]
theorem allIn_succ (l : List R) (x y : Int) (k : Nat) (h : k < l.length) : allIn l x y (k + 1) = (allIn l x y k && l[k].has x y) := by
  simp only [allIn, List.take_succ_eq_append_getElem h, List.all_append, List.all_cons, List.all_nil, Bool.and_true]

theorem has_inter (r s : R) (x y : Int) : (inter r s).has x y = (r.has x y && s.has x y) := by
  unfold inter
  by_cases hE : (core r s).empty = true
  · rw [if_pos hE]
    simp only [R.empty, emptyB_iff, core] at hE
    rw [Bool.eq_iff_iff]
    simp only [R.has, inB, Bool.and_eq_true, decide_eq_true_eq]
    revert hE
    repeat' split
    all_goals
      intro hE
      omega
  · rw [if_neg hE]
    rw [Bool.eq_iff_iff]
    simp only [R.has, inB, Bool.and_eq_true, decide_eq_true_eq]
    simp only [core]
    clear hE
    have e0 : (if r.x0 < s.x0 then s.x0 else r.x0) ≤ x ↔ r.x0 ≤ x ∧ s.x0 ≤ x := by split <;> omega
    have e1 : x < (if s.x1 < r.x1 then s.x1 else r.x1) ↔ x < r.x1 ∧ x < s.x1 := by split <;> omega
    have e2 : (if r.y0 < s.y0 then s.y0 else r.y0) ≤ y ↔ r.y0 ≤ y ∧ s.y0 ≤ y := by split <;> omega
    have e3 : y < (if s.y1 < r.y1 then s.y1 else r.y1) ↔ y < r.y1 ∧ y < s.y1 := by split <;> omega
    rw [e0, e1, e2, e3]
    clear e0 e1 e2 e3
    constructor
    · rintro ⟨⟨⟨⟨h1, h2⟩, h3, h4⟩, h5, h6⟩, h7, h8⟩
      exact ⟨⟨⟨⟨h1, h3⟩, h5⟩, h7⟩, ⟨⟨h2, h4⟩, h6⟩, h8⟩
    · rintro ⟨⟨⟨⟨h1, h3⟩, h5⟩, h7⟩, ⟨⟨h2, h4⟩, h6⟩, h8⟩
      exact ⟨⟨⟨⟨h1, h2⟩, h3, h4⟩, h5, h6⟩, h7, h8⟩

theorem has_acc_inter (l : List R) (x y : Int) (k : Nat) (h : k < l.length) : (acc inter (l.take (k + 1))).has x y = allIn l x y (k + 1) := by
  induction k with
  | zero =>
    rw [acc_first inter l h, allIn_succ l x y 0 h, allIn_zero, Bool.true_and]
  | succ k ih =>
    rw [acc_step inter l (k + 1) h (by omega), has_inter, ih (by omega), allIn_succ l x y (k + 1) h]

def anyIn (l : List R) (x y : Int) (k : Nat) : Bool := (l.take k).any fun r => r.has x y
theorem anyIn_zero (l : List R) (x y : Int) : anyIn l x y 0 = false := by simp [anyIn]
theorem anyIn_succ (l : List R) (x y : Int) (k : Nat) (h : k < l.length) : anyIn l x y (k + 1) = (anyIn l x y k || l[k].has x y) := by
  simp only [anyIn, List.take_succ_eq_append_getElem h, List.any_append, List.any_cons, List.any_nil, Bool.or_false]
def allSub (l : List R) (s : R) (k : Nat) : Bool := (l.take k).all fun r => r.sub s
theorem allSub_zero (l : List R) (s : R) : allSub l s 0 = true := by simp [allSub]
theorem allSub_succ (l : List R) (s : R) (k : Nat) (h : k < l.length) : allSub l s (k + 1) = (allSub l s k && l[k].sub s) := by
  simp only [allSub, List.take_succ_eq_append_getElem h, List.all_append, List.all_cons, List.all_nil, Bool.and_true]

theorem hull_le (r t : R) : (hull r t).x0 ≤ r.x0 ∧ (hull r t).x0 ≤ t.x0 ∧ (hull r t).y0 ≤ r.y0 ∧ (hull r t).y0 ≤ t.y0 ∧ r.x1 ≤ (hull r t).x1 ∧ t.x1 ≤ (hull r t).x1 ∧ r.y1 ≤ (hull r t).y1 ∧ t.y1 ≤ (hull r t).y1 := by
  simp only [hull]
  refine ⟨?_, ?_, ?_, ?_, ?_, ?_, ?_, ?_⟩ <;> split <;> omega
theorem hull_or (r t : R) : ((hull r t).x0 = r.x0 ∨ (hull r t).x0 = t.x0) ∧ ((hull r t).y0 = r.y0 ∨ (hull r t).y0 = t.y0) ∧ ((hull r t).x1 = r.x1 ∨ (hull r t).x1 = t.x1) ∧ ((hull r t).y1 = r.y1 ∨ (hull r t).y1 = t.y1) := by
  simp only [hull]
  refine ⟨?_, ?_, ?_, ?_⟩ <;> split <;> omega

theorem has_empty {r : R} (h : r.empty = true) (x y : Int) : r.has x y = false := by
  simp only [R.empty, emptyB_iff] at h
  simp only [R.has, inB, Bool.and_eq_false_iff, decide_eq_false_iff_not]
  omega
theorem has_union {r t : R} {x y : Int} (h : (r.has x y || t.has x y) = true) : (union r t).has x y = true := by
  unfold union
  by_cases hr : r.empty = true
  · rw [if_pos hr]
    rw [has_empty hr, Bool.false_or] at h
    exact h
  · rw [if_neg hr]
    by_cases ht : t.empty = true
    · rw [if_pos ht]
      rw [has_empty ht, Bool.or_false] at h
      exact h
    · rw [if_neg ht]
      have := hull_le r t
      rw [Bool.or_eq_true] at h
      simp only [R.has, inB, Bool.and_eq_true, decide_eq_true_eq] at h ⊢
      omega
theorem has_acc_union (l : List R) (x y : Int) (k : Nat) (h : k < l.length) (ha : anyIn l x y (k + 1) = true) : (acc union (l.take (k + 1))).has x y = true := by
  induction k with
  | zero =>
    rw [acc_first union l h]
    rw [anyIn_succ l x y 0 h, anyIn_zero, Bool.false_or] at ha
    exact ha
  | succ k ih =>
    rw [acc_step union l (k + 1) h (by omega)]
    rw [anyIn_succ l x y (k + 1) h, Bool.or_eq_true] at ha
    apply has_union
    rw [Bool.or_eq_true]
    rcases ha with ha | ha
    · exact .inl (ih (by omega) ha)
    · exact .inr ha

theorem sub_empty {r : R} (h : r.empty = true) (s : R) : r.sub s = true := by
  have h' : emptyB r.x0 r.y0 r.x1 r.y1 = true := h
  simp [R.sub, subB, h']
theorem sub_some {r : R} (h : r.empty = false) (s : R) : r.sub s = true ↔ s.x0 ≤ r.x0 ∧ r.x1 ≤ s.x1 ∧ s.y0 ≤ r.y0 ∧ r.y1 ≤ s.y1 := by
  have h' : emptyB r.x0 r.y0 r.x1 r.y1 = false := h
  simp only [R.sub, subB, h', Bool.false_or, Bool.and_eq_true, decide_eq_true_eq]
  omega
theorem sub_union (r t s : R) : (union r t).sub s = (r.sub s && t.sub s) := by
  unfold union
  cases hr : r.empty with
  | true => simp [sub_empty hr]
  | false =>
    cases ht : t.empty with
    | true => simp [sub_empty ht]
    | false =>
      simp only [Bool.false_eq_true, if_false]
      rw [Bool.eq_iff_iff, Bool.and_eq_true, sub_some (hull_empty hr ht), sub_some hr, sub_some ht]
      have h1 := hull_le r t
      have h2 := hull_or r t
      omega
theorem sub_acc_union (l : List R) (s : R) (k : Nat) (h : k < l.length) : (acc union (l.take (k + 1))).sub s = allSub l s (k + 1) := by
  induction k with
  | zero => rw [acc_first union l h, allSub_succ l s 0 h, allSub_zero, Bool.true_and]
  | succ k ih => rw [acc_step union l (k + 1) h (by omega), sub_union, ih (by omega), allSub_succ l s (k + 1) h]
end Go.Proofs.Ytojplcchoffapaa
