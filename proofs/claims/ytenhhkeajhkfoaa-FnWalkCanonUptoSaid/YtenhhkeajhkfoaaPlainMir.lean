/- Plain: a near script with all numbers of the other sign. -/
import Derived.Test.YtenhhkeajhkfoaaPlainNear
import Derived.Test.YtenhhkeajhkfoaaSmall
namespace Go.Proofs.Ytenhhkeajhkfoaa
open Go.RowKit

theorem allB_iff (m : Int) (zs : List Int) : allB m zs = true ↔ ∀ n ∈ zs, -m ≤ n ∧ n ≤ m := by
  simp only [allB, List.all_eq_true, okB_iff]
theorem nearR_out {r : R} (h : nearR r = true) : Bd 1125899906842624 r := by
  have h' := (allB_iff _ _).1 h
  simp only [List.mem_cons, List.not_mem_nil, or_false, forall_eq_or_imp, forall_eq] at h'
  exact h'
theorem nearS_out {s : S} (h : nearS s = true) : Nr s := by
  obtain ⟨h1, h2⟩ := Bool.and_eq_true_iff.1 h
  have h' := (allB_iff _ _).1 h1
  simp only [List.mem_cons, List.not_mem_nil, or_false, forall_eq_or_imp, forall_eq] at h'
  exact ⟨h'.1, h'.2.1, h'.2.2, nearR_out h2⟩
theorem nearAll_out {r : R} {l : List S} (h : nearAll r l = true) : Bd 1125899906842624 r ∧ l.length ≤ 100 ∧ ∀ s ∈ l, Nr s := by
  obtain ⟨h1, h2⟩ := Bool.and_eq_true_iff.1 h
  obtain ⟨h3, h4⟩ := Bool.and_eq_true_iff.1 h1
  exact ⟨nearR_out h3, of_decide_eq_true h4, fun s hs => nearS_out (List.all_eq_true.1 h2 s hs)⟩

def negR (r : R) : R := ⟨-r.x1, -r.y1, -r.x0, -r.y0⟩
def negS (s : S) : S := ⟨s.op, -s.px, -s.py, s.n, negR s.r⟩
theorem neg_empty (r : R) : (negR r).empty = r.empty := by
  rw [Bool.eq_iff_iff]
  simp only [R.empty, emptyB_iff, negR]
  omega
theorem neg_ite' (p : Prop) [Decidable p] (x y : Int) : -(if p then x else y) = if p then -x else -y := by split <;> rfl
theorem neg_core (r s : R) : core (negR r) (negR s) = negR (core r s) := by
  apply R.ext' <;> simp only [core, negR, neg_ite', Int.neg_lt_neg_iff]
theorem neg_hull (r s : R) : hull (negR r) (negR s) = negR (hull r s) := by
  apply R.ext' <;> simp only [hull, negR, neg_ite', Int.neg_lt_neg_iff]
theorem neg_inter (r s : R) : inter (negR r) (negR s) = negR (inter r s) := by
  unfold inter
  rw [neg_core, neg_empty]
  split <;> rfl
theorem neg_union (r s : R) : union (negR r) (negR s) = negR (union r s) := by
  unfold union
  rw [neg_empty, neg_empty, neg_hull]
  split
  · rfl
  · split <;> rfl
theorem neg_canon (r : R) : canonR (negR r) = negR (canonR r) := by
  apply R.ext' <;> simp only [canonR, negR, neg_ite', Int.neg_lt_neg_iff]
theorem neg_lo (a c n : Int) : pLo (-c) (-a) n = -(pHi a c n) ∧ pHi (-c) (-a) n = -(pLo a c n) := by
  have e : (-c + -a) = -(a + c) := by omega
  unfold pLo pHi
  rw [e, Int.neg_tdiv]
  by_cases h : c - a < 2 * n
  · have h' : -a - -c < 2 * n := by omega
    rw [if_pos h, if_pos h, if_pos h', if_pos h']
    exact ⟨rfl, rfl⟩
  · have h' : ¬ -a - -c < 2 * n := by omega
    rw [if_neg h, if_neg h, if_neg h', if_neg h']
    omega
theorem neg_step (s : S) (r : R) : stepP (negS s) (negR r) = negR (stepP s r) := by
  unfold stepP negS
  dsimp only
  split
  · apply R.ext' <;> simp only [negR] <;> omega
  split
  · apply R.ext' <;> simp only [negR] <;> omega
  split
  · apply R.ext' <;> simp only [negR]
    · exact (neg_lo _ _ _).1
    · exact (neg_lo _ _ _).1
    · exact (neg_lo _ _ _).2
    · exact (neg_lo _ _ _).2
  split
  · exact neg_canon _
  split
  · exact neg_inter _ _
  split
  · exact neg_union _ _
  · rfl
theorem neg_run (l : List S) : ∀ r, runP (negR r) (l.map negS) = negR (runP r l) := by
  induction l with
  | nil => intro r; rfl
  | cons s l ih =>
    intro r
    simp only [runP, List.map_cons, List.foldl_cons] at ih ⊢
    rw [neg_step]
    exact ih _
theorem neg_bd {K : Int} {r : R} (h : Bd K r) : Bd K (negR r) := by
  unfold Bd negR at *
  dsimp only
  omega
theorem neg_nr {s : S} (h : Nr s) : Nr (negS s) := by
  obtain ⟨h1, h2, h3, h4⟩ := h
  exact ⟨by simp only [negS]; omega, by simp only [negS]; omega, h3, neg_bd h4⟩
/-- the plain law of FnWalkMirrored -/
theorem neg_take {r : R} {l : List S} (h : nearAll r l = true) (k : Nat) : runS (negR r) ((l.map negS).take k) = negR (runS r (l.take k)) ∧ Bd (1125899906842624 * 101) (runS r (l.take k)) := by
  obtain ⟨h1, h2, h3⟩ := nearAll_out h
  have hl : (l.take k).length ≤ 100 := by rw [List.length_take]; omega
  have e1 := run_near (l.take k) r 0 (h1.mono (by omega)) (by omega) (fun s hs => h3 s (List.mem_of_mem_take hs))
  have e2 := run_near ((l.take k).map negS) (negR r) 0 ((neg_bd h1).mono (by omega)) (by rw [List.length_map]; omega) (fun s hs => by
    obtain ⟨t, ht, rfl⟩ := List.mem_map.1 hs
    exact neg_nr (h3 t (List.mem_of_mem_take ht)))
  rw [← List.map_take, e2.1, neg_run, e1.1]
  exact ⟨rfl, e1.1 ▸ e1.2⟩
end Go.Proofs.Ytenhhkeajhkfoaa
