/- Plain: a near script without Inset, all of whose rectangles are moved by a point. -/
import Derived.Test.YtenhhkeajhkfoaaPlainMir
import Derived.Test.YtenhhkeajhkfoaaPlainSub
import Derived.Test.YtenhhkeajhkfoaaSetOp
namespace Go.Proofs.Ytenhhkeajhkfoaa
open Go.RowKit

/-- a step of near numbers, its rectangle a little further off -/
def Nr2 (s : S) : Prop := (-1125899906842624 ≤ s.px ∧ s.px ≤ 1125899906842624) ∧ (-1125899906842624 ≤ s.py ∧ s.py ≤ 1125899906842624) ∧ (-1125899906842624 ≤ s.n ∧ s.n ≤ 1125899906842624) ∧ Bd 2251799813685248 s.r
theorem Nr.two {s : S} (h : Nr s) : Nr2 s := ⟨h.1, h.2.1, h.2.2.1, h.2.2.2.mono (by omega)⟩
theorem on_near2 {K : Int} {r : R} {s : S} (hr : Bd K r) (h1 : 2251799813685248 ≤ K) (h2 : K ≤ 144115188075855872) (hs : Nr2 s) : s.on r = stepP s r ∧ Bd (K + 1125899906842624) (stepP s r) := by
  obtain ⟨hx, hy, hn, hsr⟩ := hs
  have hr' := hr.mono h2
  unfold S.on stepR stepP
  split
  · obtain ⟨b0, b1, b2, b3⟩ := hr
    refine ⟨?_, ?_⟩
    · unfold addR
      rw [IntWalk.wrap64_in _ (by omega), IntWalk.wrap64_in _ (by omega), IntWalk.wrap64_in _ (by omega), IntWalk.wrap64_in _ (by omega)]
    · unfold Bd; dsimp only; omega
  split
  · obtain ⟨b0, b1, b2, b3⟩ := hr
    refine ⟨?_, ?_⟩
    · unfold subR
      rw [IntWalk.wrap64_in _ (by omega), IntWalk.wrap64_in _ (by omega), IntWalk.wrap64_in _ (by omega), IntWalk.wrap64_in _ (by omega)]
    · unfold Bd; dsimp only; omega
  split
  · obtain ⟨b0, b1, b2, b3⟩ := hr
    obtain ⟨c0, c1, c2, c3⟩ := hr'
    refine ⟨?_, ?_⟩
    · unfold insetR
      rw [(ins_eq _ _ _ c0 c2 hn).1, (ins_eq _ _ _ c0 c2 hn).2, (ins_eq _ _ _ c1 c3 hn).1, (ins_eq _ _ _ c1 c3 hn).2]
    · have hx := pLo_bd _ _ _ _ b0 b2 hn
      have hy := pLo_bd _ _ _ _ b1 b3 hn
      exact ⟨hx.1, hy.1, hx.2, hy.2⟩
  split
  · exact ⟨rfl, (canon_bd hr).mono (by omega)⟩
  split
  · exact ⟨rfl, (inter_bd (by omega) hr (hsr.mono h1)).mono (by omega)⟩
  split
  · exact ⟨rfl, (union_bd hr (hsr.mono h1)).mono (by omega)⟩
  · exact ⟨rfl, hr.mono (by omega)⟩
theorem run_near2 (l : List S) : ∀ (r : R) (j : Nat), Bd (1125899906842624 * (j + 2)) r → l.length + j ≤ 100 → (∀ s ∈ l, Nr2 s) → runS r l = runP r l ∧ Bd (1125899906842624 * 102) (runS r l) := by
  induction l with
  | nil => intro r j hr hl _; exact ⟨rfl, hr.mono (by simp at hl; omega)⟩
  | cons s l ih =>
    intro r j hr hl hs
    simp only [List.length_cons] at hl
    obtain ⟨e, hb⟩ := on_near2 hr (by omega) (by omega) (hs s List.mem_cons_self)
    have h := ih (s.on r) (j + 1) (by rw [e]; exact hb.mono (by omega)) (by omega) (fun t ht => hs t (List.mem_cons_of_mem _ ht))
    simp only [runS, runP, List.foldl_cons] at h ⊢
    rw [e] at h ⊢
    exact h

def movR (x y : Int) (r : R) : R := ⟨r.x0 + x, r.y0 + y, r.x1 + x, r.y1 + y⟩
def movS (x y : Int) (s : S) : S := ⟨s.op, s.px, s.py, 0, movR x y s.r⟩
/-- the law's change of a step -/
def S.calm (s : S) : S := if s.op = 2 then s.as (-1) else s
theorem calm_nr {s : S} (h : Nr s) : Nr s.calm := by
  unfold S.calm
  split
  · exact h
  · exact h
theorem calm_op (s : S) : s.calm.op ≠ 2 := by
  unfold S.calm
  split
  · simp [S.as]
  · assumption
theorem mov_bd {K K' x y : Int} {r : R} (h : Bd K r) (hx : -1125899906842624 ≤ x ∧ x ≤ 1125899906842624) (hy : -1125899906842624 ≤ y ∧ y ≤ 1125899906842624) (hK : K + 1125899906842624 ≤ K') : Bd K' (movR x y r) := by
  unfold Bd movR at *
  dsimp only
  omega
theorem mov_empty (x y : Int) (r : R) : (movR x y r).empty = r.empty := by
  rw [Bool.eq_iff_iff]
  simp only [R.empty, emptyB_iff, movR]
  omega
/-- moved, or a single corner -/
def Mv (x y : Int) (a b : R) : Prop := b = movR x y a ∨ (b = a ∧ a.x0 = a.x1 ∧ a.y0 = a.y1)
theorem Mv.empty {x y : Int} {a b : R} (h : Mv x y a b) : b.empty = a.empty := by
  rcases h with rfl | ⟨rfl, _⟩
  · exact mov_empty _ _ _
  · rfl
theorem corner_empty {a : R} (h : a.x0 = a.x1 ∧ a.y0 = a.y1) : a.empty = true := by
  rw [show a.empty = emptyB a.x0 a.y0 a.x1 a.y1 from rfl, emptyB_iff]
  omega
theorem add_ite' (p : Prop) [Decidable p] (x y z : Int) : (if p then x else y) + z = if p then x + z else y + z := by split <;> rfl
theorem mov_core (x y : Int) (r s : R) : core (movR x y r) (movR x y s) = movR x y (core r s) := by
  apply R.ext' <;> simp only [core, movR, add_ite', Int.add_lt_add_iff_right]
theorem mov_hull (x y : Int) (r s : R) : hull (movR x y r) (movR x y s) = movR x y (hull r s) := by
  apply R.ext' <;> simp only [hull, movR, add_ite', Int.add_lt_add_iff_right]
theorem mov_canon (x y : Int) (r : R) : canonR (movR x y r) = movR x y (canonR r) := by
  apply R.ext' <;> simp only [canonR, movR, add_ite', Int.add_lt_add_iff_right]
theorem core_e_left {r : R} (h : r.empty = true) (s : R) : (core r s).empty = true := by
  have hl := core_le r s
  have h' := (emptyB_iff _ _ _ _).1 (show emptyB r.x0 r.y0 r.x1 r.y1 = true from h)
  rw [show (core r s).empty = emptyB (core r s).x0 (core r s).y0 (core r s).x1 (core r s).y1 from rfl, emptyB_iff]
  omega
theorem mov_step {x y : Int} {s : S} {a b : R} (h2 : s.op ≠ 2) (h : Mv x y a b) : Mv x y (stepP s a) (stepP (movS x y s) b) := by
  have he := h.empty
  unfold stepP movS
  dsimp only
  by_cases c0 : s.op = 0
  · rw [if_pos c0, if_pos c0]
    rcases h with rfl | ⟨rfl, h3⟩
    · exact .inl (by simp only [movR, R.mk.injEq]; omega)
    · exact .inr ⟨rfl, by dsimp only; omega⟩
  rw [if_neg c0, if_neg c0]
  by_cases c1 : s.op = 1
  · rw [if_pos c1, if_pos c1]
    rcases h with rfl | ⟨rfl, h3⟩
    · exact .inl (by simp only [movR, R.mk.injEq]; omega)
    · exact .inr ⟨rfl, by dsimp only; omega⟩
  rw [if_neg c1, if_neg c1, if_neg h2, if_neg h2]
  by_cases c3 : s.op = 3
  · rw [if_pos c3, if_pos c3]
    rcases h with rfl | ⟨rfl, h3⟩
    · exact .inl (mov_canon _ _ _)
    · refine .inr ⟨rfl, ?_⟩
      simp only [canonR]
      constructor <;> split <;> omega
  rw [if_neg c3, if_neg c3]
  by_cases c4 : s.op = 4
  · rw [if_pos c4, if_pos c4]
    unfold inter
    rcases h with rfl | ⟨rfl, h3⟩
    · rw [mov_core, mov_empty]
      cases (core a s.r).empty with
      | true => exact .inr ⟨rfl, rfl, rfl⟩
      | false => exact .inl rfl
    · have h4 := corner_empty h3
      rw [core_e_left h4, core_e_left h4]
      exact .inr ⟨rfl, rfl, rfl⟩
  rw [if_neg c4, if_neg c4]
  by_cases c5 : s.op = 5
  · rw [if_pos c5, if_pos c5]
    unfold union
    rw [he, mov_empty]
    cases ha : a.empty with
    | true => exact .inl rfl
    | false =>
      rcases h with rfl | ⟨rfl, h3⟩
      · cases s.r.empty with
        | true => exact .inl rfl
        | false => exact .inl (mov_hull _ _ _ _)
      · rw [corner_empty h3] at ha
        cases ha
  · rw [if_neg c5, if_neg c5]
    exact h
theorem mov_run {x y : Int} (l : List S) : ∀ a b : R, (∀ s ∈ l, s.op ≠ 2) → Mv x y a b → Mv x y (runP a l) (runP b (l.map (movS x y))) := by
  induction l with
  | nil => intro a b _ h; exact h
  | cons s l ih =>
    intro a b hs h
    simp only [runP, List.map_cons, List.foldl_cons] at ih ⊢
    exact ih _ _ (fun q hq => hs q (List.mem_cons_of_mem _ hq)) (mov_step (hs s List.mem_cons_self) h)
/-- the plain law of FnWalkMoved -/
theorem mov_take {r : R} {l : List S} {x y : Int} (h : nearAll r l = true) (hxy : allB 1125899906842624 [x, y] = true) (k : Nat) :
    Mv x y (runS r ((l.map S.calm).take k)) (runS (movR x y r) ((l.map (fun s => movS x y s.calm)).take k)) ∧ Bd (1125899906842624 * 102) (runS r ((l.map S.calm).take k)) := by
  obtain ⟨h1, h2, h3⟩ := nearAll_out h
  have hxy' := (allB_iff _ _).1 hxy
  simp only [List.mem_cons, List.not_mem_nil, or_false, forall_eq_or_imp, forall_eq] at hxy'
  have hl : ((l.map S.calm).take k).length ≤ 100 := by rw [List.length_take, List.length_map]; omega
  have ha : ∀ s ∈ (l.map S.calm).take k, Nr s ∧ s.op ≠ 2 := by
    intro s hs
    obtain ⟨q, hq, rfl⟩ := List.mem_map.1 (List.mem_of_mem_take hs)
    exact ⟨calm_nr (h3 q hq), calm_op q⟩
  have e : (l.map (fun s => movS x y s.calm)).take k = ((l.map S.calm).take k).map (movS x y) := by
    rw [List.map_take, List.map_map]
    rfl
  have e1 := run_near2 ((l.map S.calm).take k) r 0 (h1.mono (by omega)) (by omega) (fun s hs => (ha s hs).1.two)
  have e2 := run_near2 (((l.map S.calm).take k).map (movS x y)) (movR x y r) 0 (mov_bd h1 hxy'.1 hxy'.2 (by omega)) (by rw [List.length_map]; omega) (fun s hs => by
    obtain ⟨q, hq, rfl⟩ := List.mem_map.1 hs
    obtain ⟨n1, n2, n3, n4⟩ := (ha q hq).1
    exact ⟨n1, n2, by simp only [movS]; omega, mov_bd n4 hxy'.1 hxy'.2 (by omega)⟩)
  rw [e, e1.1, e2.1]
  exact ⟨mov_run _ _ _ (fun s hs => (ha s hs).2) (.inl rfl), e1.1 ▸ e1.2⟩
end Go.Proofs.Ytenhhkeajhkfoaa
