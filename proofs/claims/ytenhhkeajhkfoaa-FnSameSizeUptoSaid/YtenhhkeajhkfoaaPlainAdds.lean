/- Plain: scripts of Adds and Subs, of any numbers. Conditions: none. -/
import Derived.Test.YtenhhkeajhkfoaaOwnS
namespace Go.Proofs.Ytenhhkeajhkfoaa
open Go.RowKit

def addAt (xs ys : List Int) (bs : List Bool) (i : Nat) : S := ⟨bif bs.getD i false then 1 else 0, xs.getD i 0, ys.getD i 0, 0, ⟨0, 0, 0, 0⟩⟩
def addsS (xs ys : List Int) (bs : List Bool) (k : Nat) : List S := (List.range k).map (addAt xs ys bs)
theorem addsS_length (xs ys : List Int) (bs : List Bool) (k : Nat) : (addsS xs ys bs k).length = k := by simp [addsS]
theorem addsS_succ (xs ys : List Int) (bs : List Bool) (k : Nat) : addsS xs ys bs (k + 1) = addsS xs ys bs k ++ [addAt xs ys bs k] := by simp [addsS, List.range_succ]
theorem addsS_op (xs ys : List Int) (bs : List Bool) (k : Nat) : ∀ s ∈ addsS xs ys bs k, s.op = 0 ∨ s.op = 1 := by
  intro s hs
  simp only [addsS, List.mem_map] at hs
  obtain ⟨i, _, rfl⟩ := hs
  unfold addAt
  cases bs.getD i false <;> simp
/-- the sums, wrapped around -/
def moveX (p : Int) (s : S) : Int := if s.op = 1 then wrap64 (p - s.px) else wrap64 (p + s.px)
def moveY (p : Int) (s : S) : Int := if s.op = 1 then wrap64 (p - s.py) else wrap64 (p + s.py)
def sumX (l : List S) : Int := l.foldl moveX 0
def sumY (l : List S) : Int := l.foldl moveY 0
theorem sumX_snoc (l : List S) (s : S) : sumX (l ++ [s]) = moveX (sumX l) s := by simp [sumX]
theorem sumY_snoc (l : List S) (s : S) : sumY (l ++ [s]) = moveY (sumY l) s := by simp [sumY]

theorem w_add (a b p x : Int) (h : wrap64 a = wrap64 (b + p)) : wrap64 (wrap64 (a + x)) = wrap64 (b + wrap64 (p + x)) := by
  unfold wrap64 at *
  omega
theorem w_sub (a b p x : Int) (h : wrap64 a = wrap64 (b + p)) : wrap64 (wrap64 (a - x)) = wrap64 (b + wrap64 (p - x)) := by
  unfold wrap64 at *
  omega
theorem w_idem (a : Int) : wrap64 (wrap64 a) = wrap64 a := by
  unfold wrap64
  omega
/-- r is r0 moved by p, wrapped around -/
def Moved (r0 : R) (px py : Int) (r : R) : Prop := wrap64 r.x0 = wrap64 (r0.x0 + px) ∧ wrap64 r.y0 = wrap64 (r0.y0 + py) ∧ wrap64 r.x1 = wrap64 (r0.x1 + px) ∧ wrap64 r.y1 = wrap64 (r0.y1 + py)
theorem moved_step {r0 r : R} {px py : Int} {s : S} (hs : s.op = 0 ∨ s.op = 1) (h : Moved r0 px py r) : Moved r0 (moveX px s) (moveY py s) (s.on r) := by
  obtain ⟨h0, h1, h2, h3⟩ := h
  unfold S.on stepR moveX moveY
  rcases hs with hs | hs
  · rw [hs, if_pos rfl, if_neg (by omega), if_neg (by omega)]
    exact ⟨w_add _ _ _ _ h0, w_add _ _ _ _ h1, w_add _ _ _ _ h2, w_add _ _ _ _ h3⟩
  · rw [hs, if_pos rfl, if_pos rfl, if_neg (by omega), if_pos rfl]
    exact ⟨w_sub _ _ _ _ h0, w_sub _ _ _ _ h1, w_sub _ _ _ _ h2, w_sub _ _ _ _ h3⟩
theorem moved_run (l : List S) : ∀ (r0 r : R) (px py : Int), (∀ s ∈ l, s.op = 0 ∨ s.op = 1) → Moved r0 px py r → Moved r0 (l.foldl moveX px) (l.foldl moveY py) (runS r l) := by
  induction l with
  | nil => intro r0 r px py _ h; exact h
  | cons s l ih =>
    intro r0 r px py hs h
    simp only [runS, List.foldl_cons] at ih ⊢
    exact ih r0 _ _ _ (fun t ht => hs t (List.mem_cons_of_mem _ ht)) (moved_step (hs s List.mem_cons_self) h)
theorem moved_zero (r : R) : Moved r 0 0 r := by simp [Moved]
theorem on_wrapped {s : S} (hs : s.op = 0 ∨ s.op = 1) (r : R) : wrap64 (s.on r).x0 = (s.on r).x0 ∧ wrap64 (s.on r).y0 = (s.on r).y0 ∧ wrap64 (s.on r).x1 = (s.on r).x1 ∧ wrap64 (s.on r).y1 = (s.on r).y1 := by
  unfold S.on stepR
  rcases hs with hs | hs
  · rw [hs, if_pos rfl]
    exact ⟨w_idem _, w_idem _, w_idem _, w_idem _⟩
  · rw [hs, if_neg (by omega), if_pos rfl]
    exact ⟨w_idem _, w_idem _, w_idem _, w_idem _⟩
/-- the plain law of FnWalkAdds -/
theorem adds_law (r : R) (l : List S) (hs : ∀ s ∈ l, s.op = 0 ∨ s.op = 1) (hl : 0 < l.length) : runS r l = addR r (sumX l) (sumY l) := by
  obtain ⟨h0, h1, h2, h3⟩ := moved_run l r r 0 0 hs (moved_zero r)
  have hk := runS_step r l (l.length - 1) (by omega)
  rw [show l.length - 1 + 1 = l.length by omega, List.take_length] at hk
  have hm := List.getElem_mem (show l.length - 1 < l.length by omega)
  obtain ⟨i0, i1, i2, i3⟩ := on_wrapped (hs _ hm) (runS r (l.take (l.length - 1)))
  rw [← hk] at i0 i1 i2 i3
  rw [i0] at h0
  rw [i1] at h1
  rw [i2] at h2
  rw [i3] at h3
  generalize runS r l = q at *
  obtain ⟨a, b, c, d⟩ := q
  simp only [addR, R.mk.injEq]
  exact ⟨h0, h1, h2, h3⟩
/-- the plain law of FnSameSize -/
theorem size_law (r : R) (l : List S) (hs : ∀ s ∈ l, s.op = 0 ∨ s.op = 1) : wrap64 ((runS r l).x1 - (runS r l).x0) = wrap64 (r.x1 - r.x0) ∧ wrap64 ((runS r l).y1 - (runS r l).y0) = wrap64 (r.y1 - r.y0) := by
  obtain ⟨h0, h1, h2, h3⟩ := moved_run l r r 0 0 hs (moved_zero r)
  generalize runS r l = q at *
  generalize l.foldl moveX 0 = px at *
  generalize l.foldl moveY 0 = py at *
  unfold wrap64 at *
  omega
end Go.Proofs.Ytenhhkeajhkfoaa
