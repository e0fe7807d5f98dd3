/- Plain laws of lying in another rectangle. -/
import Derived.Test.YtojplcchoffapaaPlainPts
namespace Go.Proofs.Ytojplcchoffapaa

theorem sub_trans {r s t : R} (h1 : r.sub s = true) (h2 : s.sub t = true) : r.sub t = true := by
  cases he : r.empty with
  | true => exact sub_empty he t
  | false =>
    rw [sub_some he] at h1
    have he' := (emptyB_not _ _ _ _).1 he
    have hs : s.empty = false := (emptyB_not _ _ _ _).2 (by omega)
    rw [sub_some hs] at h2
    rw [sub_some he]
    omega
theorem sub_refl (r : R) : r.sub r = true := by
  cases he : r.empty with
  | true => exact sub_empty he r
  | false => rw [sub_some he]; omega
theorem sub_union_left (r s : R) : r.sub (union r s) = true := by
  have h := sub_union r s (union r s)
  rw [sub_refl] at h
  exact (Bool.and_eq_true_iff.1 h.symm).1
theorem sub_union_right (r s : R) : s.sub (union r s) = true := by
  have h := sub_union r s (union r s)
  rw [sub_refl] at h
  exact (Bool.and_eq_true_iff.1 h.symm).2
theorem core_le (r t : R) : r.x0 ≤ (core r t).x0 ∧ t.x0 ≤ (core r t).x0 ∧ r.y0 ≤ (core r t).y0 ∧ t.y0 ≤ (core r t).y0 ∧ (core r t).x1 ≤ r.x1 ∧ (core r t).x1 ≤ t.x1 ∧ (core r t).y1 ≤ r.y1 ∧ (core r t).y1 ≤ t.y1 := by
  simp only [core]
  refine ⟨?_, ?_, ?_, ?_, ?_, ?_, ?_, ?_⟩ <;> split <;> omega
theorem inter_sub (r s : R) : (inter r s).sub r = true ∧ (inter r s).sub s = true := by
  unfold inter
  cases he : (core r s).empty with
  | true => exact ⟨sub_empty rfl r, sub_empty rfl s⟩
  | false =>
    have h := core_le r s
    simp only [Bool.false_eq_true, if_false, sub_some he]
    omega

/-- the plain law of FnModularMeet -/
theorem modular (a b c : R) : (union (inter a c) (inter b c)).sub c = true ∧ (union (inter a c) (inter b c)).sub (union (inter a c) b) = true := by
  rw [sub_union, sub_union, (inter_sub a c).2, (inter_sub b c).2, sub_union_left, sub_trans (inter_sub b c).1 (sub_union_right _ _)]
  exact ⟨rfl, rfl⟩
end Go.Proofs.Ytojplcchoffapaa
