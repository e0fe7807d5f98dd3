/- Plain: a script with the axes exchanged. -/
import Derived.Test.YtenhhkeajhkfoaaSteps
namespace Go.Proofs.Ytenhhkeajhkfoaa

def turnR (r : R) : R := ⟨r.y0, r.x0, r.y1, r.x1⟩
def turnS (s : S) : S := ⟨s.op, s.py, s.px, s.n, turnR s.r⟩
theorem turn_empty (r : R) : (turnR r).empty = r.empty := by
  simp only [R.empty, emptyB, turnR]
  exact Bool.or_comm _ _
theorem turn_inter (r s : R) : inter (turnR r) (turnR s) = turnR (inter r s) := by
  have h : core (turnR r) (turnR s) = turnR (core r s) := rfl
  unfold inter
  rw [h, turn_empty]
  split <;> rfl
theorem turn_union (r s : R) : union (turnR r) (turnR s) = turnR (union r s) := by
  unfold union
  rw [turn_empty, turn_empty]
  split
  · rfl
  · split <;> rfl
theorem turn_on (s : S) (r : R) : (turnS s).on (turnR r) = turnR (s.on r) := by
  unfold S.on stepR turnS
  dsimp only
  split
  · rfl
  split
  · rfl
  split
  · rfl
  split
  · rfl
  split
  · exact turn_inter _ _
  split
  · exact turn_union _ _
  · rfl
theorem turn_run (l : List S) : ∀ r, runS (turnR r) (l.map turnS) = turnR (runS r l) := by
  induction l with
  | nil => intro r; rfl
  | cons s l ih =>
    intro r
    simp only [runS, List.map_cons, List.foldl_cons] at ih ⊢
    rw [turn_on]
    exact ih _
theorem turn_take (l : List S) (r : R) (k : Nat) : runS (turnR r) ((l.map turnS).take k) = turnR (runS r (l.take k)) := by
  rw [← List.map_take, turn_run]
end Go.Proofs.Ytenhhkeajhkfoaa
