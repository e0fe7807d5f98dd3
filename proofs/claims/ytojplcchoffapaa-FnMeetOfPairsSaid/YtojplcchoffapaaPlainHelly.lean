/- Plain: rectangles with points have a point in common just if each two of them overlap. -/
import Derived.Test.YtojplcchoffapaaPlainPerm
namespace Go.Proofs.Ytojplcchoffapaa

theorem over_iff (r s : R) : r.over s = true ↔ (r.x0 < r.x1 ∧ r.y0 < r.y1) ∧ (s.x0 < s.x1 ∧ s.y0 < s.y1) ∧ r.x0 < s.x1 ∧ s.x0 < r.x1 ∧ r.y0 < s.y1 ∧ s.y0 < r.y1 := by
  simp only [R.over, overB, emptyB, Bool.and_eq_true, Bool.not_eq_true', Bool.or_eq_false_iff, decide_eq_false_iff_not, decide_eq_true_eq]
  omega
theorem nonempty_iff (r : R) : r.empty = false ↔ r.x0 < r.x1 ∧ r.y0 < r.y1 := emptyB_not _ _ _ _
/-- each two of the first k overlap -/
def pairsTo (l : List R) (k : Nat) : Bool := (List.range k).all fun a => (List.range a).all fun b => (l.getD a ⟨0, 0, 0, 0⟩).over (l.getD b ⟨0, 0, 0, 0⟩)
def rowTo (l : List R) (k j : Nat) : Bool := (List.range j).all fun b => (l.getD k ⟨0, 0, 0, 0⟩).over (l.getD b ⟨0, 0, 0, 0⟩)
theorem pairsTo_zero (l : List R) : pairsTo l 0 = true := rfl
theorem pairsTo_succ (l : List R) (k : Nat) : pairsTo l (k + 1) = (pairsTo l k && rowTo l k k) := by simp [pairsTo, rowTo, List.range_succ]
theorem rowTo_zero (l : List R) (k : Nat) : rowTo l k 0 = true := rfl
theorem rowTo_succ (l : List R) (k j : Nat) : rowTo l k (j + 1) = (rowTo l k j && (l.getD k ⟨0, 0, 0, 0⟩).over (l.getD j ⟨0, 0, 0, 0⟩)) := by simp [rowTo, List.range_succ]
theorem most (f : R → Int) (l : List R) (h : l ≠ []) : ∃ r ∈ l, ∀ s ∈ l, f s ≤ f r := by
  induction l with
  | nil => exact absurd rfl h
  | cons x l ih =>
    by_cases hl : l = []
    · subst hl
      exact ⟨x, by simp, fun s hs => by simp at hs; rw [hs]; exact Int.le_refl _⟩
    · obtain ⟨r, hr, hm⟩ := ih hl
      by_cases hx : f r ≤ f x
      · exact ⟨x, by simp, fun s hs => by
          rcases List.mem_cons.1 hs with rfl | hs
          · exact Int.le_refl _
          · exact Int.le_trans (hm s hs) hx⟩
      · exact ⟨r, List.mem_cons_of_mem _ hr, fun s hs => by
          rcases List.mem_cons.1 hs with rfl | hs
          · omega
          · exact hm s hs⟩
theorem pairs_all {l : List R} (h : pairsTo l l.length = true) (hne : ∀ r ∈ l, r.empty = false) : ∀ r ∈ l, ∀ s ∈ l, r.x0 < s.x1 ∧ r.y0 < s.y1 := by
  intro r hr s hs
  obtain ⟨a, ha, rfl⟩ := List.mem_iff_getElem.1 hr
  obtain ⟨b, hb, rfl⟩ := List.mem_iff_getElem.1 hs
  simp only [pairsTo, List.all_eq_true, List.mem_range] at h
  have ea : l.getD a ⟨0, 0, 0, 0⟩ = l[a] := by simp [ha]
  have eb : l.getD b ⟨0, 0, 0, 0⟩ = l[b] := by simp [hb]
  rcases Nat.lt_trichotomy a b with hab | hab | hab
  · have := h b hb a hab
    rw [ea, eb, over_iff] at this
    omega
  · subst hab
    exact (nonempty_iff _).1 (hne _ hr)
  · have := h a ha b hab
    rw [ea, eb, over_iff] at this
    omega
theorem over_of_has {r s : R} {x y : Int} (h1 : r.has x y = true) (h2 : s.has x y = true) : r.over s = true := by
  rw [has_iff] at h1 h2
  rw [over_iff]
  omega
/-- the plain law of FnMeetOfPairs -/
theorem helly {l : List R} (hne : ∀ r ∈ l, r.empty = false) (hl : 0 < l.length) : (acc inter l).empty = !pairsTo l l.length := by
  cases hp : pairsTo l l.length with
  | true =>
    have hall := pairs_all hp hne
    have h0 : l ≠ [] := fun e => by rw [e] at hl; simp at hl
    obtain ⟨rx, hrx, hmx⟩ := most R.x0 l h0
    obtain ⟨ry, hry, hmy⟩ := most R.y0 l h0
    have hh : (acc inter l).has rx.x0 ry.y0 = true := by
      rw [has_inter_all l hl, List.all_eq_true]
      intro s hs
      rw [has_iff]
      exact ⟨⟨hmx s hs, (hall rx hrx s hs).1⟩, hmy s hs, (hall ry hry s hs).2⟩
    cases he : (acc inter l).empty with
    | false => rfl
    | true => rw [has_empty he] at hh; cases hh
  | false =>
    cases he : (acc inter l).empty with
    | true => rfl
    | false =>
      have hn := (nonempty_iff _).1 he
      have hh : (acc inter l).has (acc inter l).x0 (acc inter l).y0 = true := (has_iff _ _ _).2 (by omega)
      rw [has_inter_all l hl, List.all_eq_true] at hh
      have : pairsTo l l.length = true := by
        simp only [pairsTo, List.all_eq_true, List.mem_range]
        intro a ha b hb
        have ea : l.getD a ⟨0, 0, 0, 0⟩ = l[a] := by simp [ha]
        have eb : l.getD b ⟨0, 0, 0, 0⟩ = l[b]'(by omega) := by simp [show b < l.length by omega]
        rw [ea, eb]
        exact over_of_has (hh _ (List.getElem_mem _)) (hh _ (List.getElem_mem _))
      rw [this] at hp
      cases hp
end Go.Proofs.Ytojplcchoffapaa
