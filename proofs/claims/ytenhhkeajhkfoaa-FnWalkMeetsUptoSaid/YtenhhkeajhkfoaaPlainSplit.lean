/- Plain: a script in two parts; slices of a slice of steps. Conditions: none. -/
import Derived.Test.YtenhhkeajhkfoaaOwnS
namespace Go.Proofs.Ytenhhkeajhkfoaa
open Go.RowKit

theorem OwnS.form2 {w : World} {base : Nat} {v : Value} {l : List S} (h : OwnS w base v l) : ∃ A c, v = .slice A l.length c ∧ Steps w A l ∧ l.length ≤ c := by
  obtain ⟨A, c, rfl, hS⟩ := h.form
  refine ⟨A, c, rfl, hS, ?_⟩
  rcases h.2 with ⟨e, h0⟩ | ⟨g, cap, cur, e, _, _, hn, _⟩
  · injection e with _ e2
    omega
  · injection e with _ _ e3
    omega
theorem sflat_take (l : List S) (k : Nat) : sflat (l.take k) = (sflat l).take (k * 8) := by
  induction l generalizing k with
  | nil => simp [sflat]
  | cons s l ih =>
    cases k with
    | zero => simp [sflat]
    | succ k =>
      have h := ih k
      have e : (k + 1) * 8 = k * 8 + 8 := by omega
      simp only [sflat] at h
      simp only [sflat, List.take_succ_cons, List.flatMap_cons, h, e]
      rw [show sflat1 s ++ List.take (k * 8) (l.flatMap sflat1) = (sflat1 s ++ l.flatMap sflat1).take (k * 8 + 8) by
        rw [List.take_append]
        simp [sflat1]]
theorem sflat_drop (l : List S) (k : Nat) : sflat (l.drop k) = (sflat l).drop (k * 8) := by
  induction l generalizing k with
  | nil => simp [sflat]
  | cons s l ih =>
    cases k with
    | zero => simp [sflat]
    | succ k =>
      have h := ih k
      have e : (k + 1) * 8 = k * 8 + 8 := by omega
      simp only [sflat] at h
      simp only [sflat, List.drop_succ_cons, List.flatMap_cons, h, e]
      rw [List.drop_append]
      simp [sflat1]
theorem Steps.take {w : World} {A : Option Addr} {l : List S} (h : Steps w A l) (k : Nat) : Steps w A (l.take k) := by
  intro h0
  obtain ⟨g, o, e, hg, hc⟩ := h (by rw [List.length_take] at h0; omega)
  refine ⟨g, o, e, hg, fun j u hu => hc j u ?_⟩
  rw [sflat_take, List.getElem?_take] at hu
  split at hu
  · exact hu
  · cases hu
/-- the address behind k steps, as slicing makes it -/
def behind (A : Option Addr) (c k : Nat) : Option Addr := if c = k then A else A.map (·.add (k * 8))
theorem Steps.drop {w : World} {A : Option Addr} {l : List S} (h : Steps w A l) (k c : Nat) (hc : l.length ≤ c) : Steps w (behind A c k) (l.drop k) := by
  intro h0
  rw [List.length_drop] at h0
  obtain ⟨g, o, rfl, hg, hcell⟩ := h (by omega)
  refine ⟨g, o + k * 8, ?_, hg, fun j u hu => ?_⟩
  · unfold behind
    rw [if_neg (by omega)]
    simp only [Option.map_some, add_off]
  · rw [sflat_drop, List.getElem?_drop] at hu
    have := hcell _ u hu
    rwa [show o + k * 8 + j = o + (k * 8 + j) by omega]
theorem behind_zero (A : Option Addr) (c : Nat) : (if c = 0 then A else A.map (·.add 0)) = A := by
  split
  · rfl
  · cases A with
    | none => rfl
    | some a => obtain ⟨b, o, p⟩ := a; simp only [Option.map_some]; unfold Addr.add; cases p <;> simp

/-- two slices lie in blocks of their own -/
def Apart (v v' : Value) : Prop := ∀ k, v.ownBlock = some k → v'.ownBlock ≠ some k
theorem apart_l {w w' : World} {base : Nat} {v v' : Value} {l l' : List R} (h : Own w' w.heap.size v l) (h' : Own w base v' l') : Apart v v' := by
  intro k e e'
  have h1 := (World.ownsRow.lt h k e).1
  have h2 := (World.ownsRow.lt h' k e').2
  omega
theorem apart_r {w w' : World} {base : Nat} {v v' : Value} {l l' : List R} (h : Own w' w.heap.size v l) (h' : Own w base v' l') : Apart v' v := by
  intro k e e'
  exact apart_l h h' k e' e

/-- the rectangles of a script in two parts -/
theorem runS_append (r : R) (l m : List S) : runS r (l ++ m) = runS (runS r l) m := by simp [runS]
theorem runs_split (r : R) (l : List S) (k : Nat) (hk : k ≤ l.length) :
    runsS r (l.take k) k ++ runsS (runS r (l.take k)) (l.drop k) (l.length - k) = runsS r l l.length := by
  apply List.ext_getElem
  · simp [runsS_length]; omega
  · intro i h1 h2
    rw [runsS_length] at h2
    rw [runsS_get _ _ _ _ h2]
    by_cases hi : i < k
    · rw [List.getElem_append_left (by rw [runsS_length]; exact hi), runsS_get _ _ _ _ hi, List.take_take]
      congr 2
      omega
    · rw [List.getElem_append_right (by rw [runsS_length]; omega)]
      simp only [runsS_length]
      rw [runsS_get _ _ _ _ (by omega), ← runS_append]
      congr 1
      have e : List.take (i + 1) l = List.take (k + (i - k + 1)) l := by congr 1; omega
      exact (List.take_add (l := l) (i := k) (j := i - k + 1)).symm.trans e.symm
theorem split_form {w : World} {base : Nat} {v : Value} {r m : R} {l : List S} {k : Nat} (h : Own w base v (runsS r (l.take k) k ++ runsS m (l.drop k) (l.length - k))) (hm : runS r (l.take k) = m) (hk : k ≤ l.length) :
    ∃ A c, v = .slice A l.length c ∧ Rects w A (runsS r l l.length) := by
  subst hm
  rw [runs_split r l k hk] at h
  obtain ⟨A, c, e, hR⟩ := h.form
  rw [runsS_length] at e
  exact ⟨A, c, e, hR⟩
theorem rects_of {w : World} {base : Nat} {A : Option Addr} {n c : Nat} {l : List R} (h : Own w base (.slice A n c) l) : Rects w A l := by
  obtain ⟨A', c', e, hR⟩ := h.form
  injection e with e1
  subst e1
  exact hR
end Go.Proofs.Ytenhhkeajhkfoaa
