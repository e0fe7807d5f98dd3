/- Plain: a near script of rectangles with their corners in order keeps them in order. -/
import Derived.Test.YtenhhkeajhkfoaaPlainMir
import Derived.Test.YtenhhkeajhkfoaaSetOp
import Derived.Test.YtenhhkeajhkfoaaMoves
namespace Go.Proofs.Ytenhhkeajhkfoaa
open Go.RowKit

theorem wf_iff (r : R) : r.wf = true ↔ r.x0 ≤ r.x1 ∧ r.y0 ≤ r.y1 := by simp [R.wf]
/-- the law's change of a step -/
def S.fit (s : S) : S := if s.r.wf = true then s else s.as (-1)
theorem fit_nr {s : S} (h : Nr s) : Nr s.fit := by
  unfold S.fit
  split
  · exact h
  · exact h
theorem fit_op (s : S) : s.fit.r.wf = true ∨ s.fit.op = -1 := by
  unfold S.fit
  split
  · exact .inl ‹_›
  · exact .inr rfl
theorem ins_wf (a c n : Int) : pLo a c n ≤ pHi a c n := by
  unfold pLo pHi
  split <;> omega
theorem canon_wf {r : R} (h : r.wf = true) : canonR r = r := by
  rw [wf_iff] at h
  obtain ⟨a, b, c, d⟩ := r
  dsimp only at h
  simp only [canonR, R.mk.injEq]
  refine ⟨?_, ?_, ?_, ?_⟩ <;> rw [if_neg (by omega)]
theorem step_wf {s : S} {r : R} (hs : s.r.wf = true ∨ s.op = -1) (h : r.wf = true) : (stepP s r).wf = true := by
  unfold stepP
  split
  · rw [wf_iff] at h ⊢; dsimp only; omega
  split
  · rw [wf_iff] at h ⊢; dsimp only; omega
  split
  · rw [wf_iff]; exact ⟨ins_wf _ _ _, ins_wf _ _ _⟩
  split
  · rw [canon_wf h]; exact h
  split
  · unfold inter
    split
    · decide
    · rename_i he
      have he := (emptyB_not _ _ _ _).1 (show emptyB _ _ _ _ = false from (by simpa using he : (core r s.r).empty = false))
      rw [wf_iff]
      omega
  split
  · have hs : s.r.wf = true := by
      rcases hs with hs | hs
      · exact hs
      · omega
    unfold union
    split
    · exact hs
    split
    · exact h
    · rw [wf_iff] at h hs ⊢
      simp only [hull]
      constructor <;> split <;> split <;> omega
  · exact h
theorem run_wf (l : List S) : ∀ r : R, (∀ s ∈ l, s.r.wf = true ∨ s.op = -1) → r.wf = true → (runP r l).wf = true := by
  induction l with
  | nil => intro r _ h; exact h
  | cons s l ih =>
    intro r hs h
    simp only [runP, List.foldl_cons] at ih ⊢
    exact ih _ (fun q hq => hs q (List.mem_cons_of_mem _ hq)) (step_wf (hs s List.mem_cons_self) h)
/-- the plain law of FnWalkCanon -/
theorem wf_take {r : R} {l : List S} (h1 : nearAll r l = true) (h : r.wf = true) (k : Nat) : (runS r ((l.map S.fit).take k)).wf = true := by
  obtain ⟨b1, n1, a1⟩ := nearAll_out h1
  have hl : ((l.map S.fit).take k).length ≤ 100 := by rw [List.length_take, List.length_map]; omega
  have ha : ∀ s ∈ (l.map S.fit).take k, Nr s ∧ (s.r.wf = true ∨ s.op = -1) := by
    intro s hs
    obtain ⟨q, hq, rfl⟩ := List.mem_map.1 (List.mem_of_mem_take hs)
    exact ⟨fit_nr (a1 q hq), fit_op q⟩
  rw [(run_near _ r 0 (b1.mono (by omega)) (by omega) (fun s hs => (ha s hs).1)).1]
  exact run_wf _ _ (fun s hs => (ha s hs).2) h
theorem canon_keeps {r : R} {l : List S} (h1 : nearAll r l = true) (h : r.wf = true) (k : Nat) (hk : k < (l.map S.fit).length) (h3 : (l.map S.fit)[k].op = 3) :
    runS r ((l.map S.fit).take (k + 1)) = runS r ((l.map S.fit).take k) := by
  rw [runS_step _ _ _ hk]
  have hw := wf_take h1 h k
  unfold S.on stepR
  rw [h3]
  rw [if_neg (by omega), if_neg (by omega), if_neg (by omega), if_pos rfl, canon_wf hw]

/-- the first k steps changed -/
def chTo (f : S → S) (l : List S) (k : Nat) : List S := (l.take k).map f ++ l.drop k
theorem chTo_length (f : S → S) (l : List S) (k : Nat) : (chTo f l k).length = l.length := by simp [chTo]; omega
theorem chTo_zero (f : S → S) (l : List S) : chTo f l 0 = l := by simp [chTo]
theorem chTo_all (f : S → S) (l : List S) : chTo f l l.length = l.map f := by simp [chTo]
theorem chTo_get (f : S → S) (l : List S) (k : Nat) (hk : k < l.length) : (chTo f l k)[k]'(by rw [chTo_length]; exact hk) = l[k] := by
  simp [chTo, Nat.min_eq_left (Nat.le_of_lt hk)]
theorem chTo_succ (f : S → S) (l : List S) (k : Nat) (hk : k < l.length) : chTo f l (k + 1) = (chTo f l k).set k (f l[k]) := by
  unfold chTo
  rw [List.take_succ_eq_append_getElem hk, List.map_append, List.append_assoc]
  rw [List.set_append_right _ _ (by simp; omega)]
  have e : k - ((l.take k).map f).length = 0 := by simp; omega
  rw [e, List.drop_eq_getElem_cons hk]
  rfl
theorem OwnS.ne {w : World} {base g n c o : Nat} {l : List S} (h : OwnS w base (.slice (some ⟨g, o, none⟩) n c) l) {g' : Nat} {t : TypeId} {vs : List Value} (h' : At w g' t vs) (ht : t ≠ 31) : g' ≠ g := by
  obtain ⟨_, _, _, cur, hh, _⟩ := h.open_
  rintro rfl
  unfold At at h'
  rw [hh] at h'
  injection h' with h'
  injection h' with _ e
  exact ht e.symm

end Go.Proofs.Ytenhhkeajhkfoaa
