/- Plain: in whatever order rectangles come, their union and their intersection have the same points. -/
import Derived.Test.YtojplcchoffapaaPlainPts
import Derived.Test.YtojplcchoffapaaPlainSub
import Derived.Test.YtojplcchoffapaaPlainCut
namespace Go.Proofs.Ytojplcchoffapaa

theorem same_of_sub {r t : R} (h1 : r.sub t = true) (h2 : t.sub r = true) : r.same t = true := by
  cases hr : r.empty with
  | true =>
    cases ht : t.empty with
    | true =>
      have hr' : emptyB r.x0 r.y0 r.x1 r.y1 = true := hr
      have ht' : emptyB t.x0 t.y0 t.x1 t.y1 = true := ht
      simp [R.same, sameB, hr', ht']
    | false =>
      rw [sub_some ht] at h2
      have hr := (emptyB_iff _ _ _ _).1 hr
      have ht := (emptyB_not _ _ _ _).1 ht
      omega
  | false =>
    cases ht : t.empty with
    | true =>
      rw [sub_some hr] at h1
      have hr := (emptyB_not _ _ _ _).1 hr
      have ht := (emptyB_iff _ _ _ _).1 ht
      omega
    | false =>
      rw [sub_some hr] at h1
      rw [sub_some ht] at h2
      have e : r = t := R.ext' (by omega) (by omega) (by omega) (by omega)
      rw [e]
      exact same_refl t
theorem has_iff (r : R) (x y : Int) : r.has x y = true ↔ (r.x0 ≤ x ∧ x < r.x1) ∧ r.y0 ≤ y ∧ y < r.y1 := by
  simp only [R.has, inB, Bool.and_eq_true, decide_eq_true_eq]
  omega
theorem sub_of_has {r t : R} (h : ∀ x y, r.has x y = true → t.has x y = true) : r.sub t = true := by
  cases hr : r.empty with
  | true => exact sub_empty hr t
  | false =>
    rw [sub_some hr]
    have hr := (emptyB_not _ _ _ _).1 hr
    have h1 := (has_iff _ _ _).1 (h r.x0 r.y0 ((has_iff _ _ _).2 (by omega)))
    have h2 := (has_iff _ _ _).1 (h (r.x1 - 1) (r.y1 - 1) ((has_iff _ _ _).2 (by omega)))
    omega
theorem sub_union_all (l : List R) (h : 0 < l.length) (s : R) : (acc union l).sub s = l.all fun r => r.sub s := by
  have e := sub_acc_union l s (l.length - 1) (by omega)
  rw [show l.length - 1 + 1 = l.length by omega, List.take_length] at e
  rw [e]
  simp [allSub]
theorem has_inter_all (l : List R) (h : 0 < l.length) (x y : Int) : (acc inter l).has x y = l.all fun r => r.has x y := by
  have e := has_acc_inter l x y (l.length - 1) (by omega)
  rw [show l.length - 1 + 1 = l.length by omega, List.take_length] at e
  rw [e]
  simp [allIn]
theorem all_perm {α : Type} (p : α → Bool) {l m : List α} (h : m.Perm l) : m.all p = l.all p := by
  rw [Bool.eq_iff_iff, List.all_eq_true, List.all_eq_true]
  exact ⟨fun hm x hx => hm x (h.mem_iff.2 hx), fun hl x hx => hl x (h.mem_iff.1 hx)⟩
/-- the plain law of FnJoinAnyOrder -/
theorem join_perm {l m : List R} (h : m.Perm l) (hl : 0 < l.length) : (acc union l).same (acc union m) = true := by
  have hm : 0 < m.length := by rw [h.length_eq]; exact hl
  refine same_of_sub ?_ ?_
  · rw [sub_union_all l hl, ← all_perm _ h, ← sub_union_all m hm]
    exact sub_refl _
  · rw [sub_union_all m hm, all_perm _ h, ← sub_union_all l hl]
    exact sub_refl _
/-- the plain law of FnMeetAnyOrder -/
theorem meet_perm {l m : List R} (h : m.Perm l) (hl : 0 < l.length) : (acc inter l).same (acc inter m) = true := by
  have hm : 0 < m.length := by rw [h.length_eq]; exact hl
  have e : ∀ x y, (acc inter l).has x y = (acc inter m).has x y := fun x y => by
    rw [has_inter_all l hl, ← all_perm _ h, ← has_inter_all m hm]
  exact same_of_sub (sub_of_has fun x y hx => by rw [← e]; exact hx) (sub_of_has fun x y hx => by rw [e]; exact hx)
end Go.Proofs.Ytojplcchoffapaa
