/- Plain: what lies in another rectangle lies in what becomes of it. -/
import Derived.Test.YtenhhkeajhkfoaaPlainMir
import Derived.Test.YtenhhkeajhkfoaaPlainSub
import Derived.Test.YtenhhkeajhkfoaaSetOp
namespace Go.Proofs.Ytenhhkeajhkfoaa
open Go.RowKit

theorem sub_iff (r s : R) : r.sub s = true ↔ (r.x1 ≤ r.x0 ∨ r.y1 ≤ r.y0) ∨ (s.x0 ≤ r.x0 ∧ r.x1 ≤ s.x1 ∧ s.y0 ≤ r.y0 ∧ r.y1 ≤ s.y1) := by
  simp only [R.sub, subB, emptyB, Bool.or_eq_true, Bool.and_eq_true, decide_eq_true_eq]
  omega
/-- the law's change of a step -/
def S.tame (s : S) : S := if s.op = 3 ∨ (s.op = 2 ∧ s.n < 0) then s.as (-1) else s
theorem tame_nr {s : S} (h : Nr s) : Nr s.tame := by
  unfold S.tame
  split
  · exact h
  · exact h
theorem tame_op (s : S) : s.tame.op ≠ 3 ∧ (s.tame.op = 2 → 0 ≤ s.tame.n) := by
  unfold S.tame
  split
  · exact ⟨by simp [S.as], by simp [S.as]⟩
  · refine ⟨by omega, by omega⟩
theorem ins_mono (a c e g n : Int) (hn : 0 ≤ n) : (c ≤ a → pHi a c n ≤ pLo a c n) ∧ (e ≤ a → c ≤ g → pHi a c n ≤ pLo a c n ∨ (pLo e g n ≤ pLo a c n ∧ pHi a c n ≤ pHi e g n)) := by
  unfold pLo pHi
  by_cases h : c - a < 2 * n
  · rw [if_pos h, if_pos h]
    exact ⟨fun _ => Int.le_refl _, fun _ _ => .inl (Int.le_refl _)⟩
  · rw [if_neg h, if_neg h]
    refine ⟨fun _ => by omega, fun h1 h2 => ?_⟩
    rw [if_neg (by omega), if_neg (by omega)]
    omega
theorem inter_mono {r t : R} (s : R) (h : r.sub t = true) : (inter r s).sub (inter t s) = true := by
  cases he : (inter r s).empty with
  | true => exact sub_empty he _
  | false =>
    have h1 := sub_trans (inter_sub r s).1 h
    have h2 := (inter_sub r s).2
    rw [sub_some he] at h1 h2 ⊢
    have he' := (emptyB_not _ _ _ _).1 he
    have hc : t.x0 ≤ (inter r s).x0 ∧ (inter r s).x1 ≤ t.x1 ∧ t.y0 ≤ (inter r s).y0 ∧ (inter r s).y1 ≤ t.y1 := h1
    generalize (inter r s) = q at *
    have hk : (core t s).x0 ≤ q.x0 ∧ q.x1 ≤ (core t s).x1 ∧ (core t s).y0 ≤ q.y0 ∧ q.y1 ≤ (core t s).y1 := by
      simp only [core]
      refine ⟨?_, ?_, ?_, ?_⟩ <;> split <;> omega
    have hne : (core t s).empty = false := (emptyB_not _ _ _ _).2 (by omega)
    unfold inter
    rw [hne]
    exact hk
theorem step_mono {s : S} {r t : R} (h3 : s.op ≠ 3) (h2 : s.op = 2 → 0 ≤ s.n) (h : r.sub t = true) : (stepP s r).sub (stepP s t) = true := by
  unfold stepP
  by_cases c0 : s.op = 0
  · rw [if_pos c0, if_pos c0]
    rw [sub_iff] at h ⊢
    dsimp only
    omega
  rw [if_neg c0, if_neg c0]
  by_cases c1 : s.op = 1
  · rw [if_pos c1, if_pos c1]
    rw [sub_iff] at h ⊢
    dsimp only
    omega
  rw [if_neg c1, if_neg c1]
  by_cases hop : s.op = 2
  · rw [if_pos hop, if_pos hop]
    rw [sub_iff] at h ⊢
    dsimp only
    have hx := ins_mono r.x0 r.x1 t.x0 t.x1 s.n (h2 hop)
    have hy := ins_mono r.y0 r.y1 t.y0 t.y1 s.n (h2 hop)
    rcases h with (h | h) | ⟨a, b, c, d⟩
    · exact .inl (.inl (hx.1 h))
    · exact .inl (.inr (hy.1 h))
    · rcases hx.2 a b with h' | h'
      · exact .inl (.inl h')
      · rcases hy.2 c d with h'' | h''
        · exact .inl (.inr h'')
        · exact .inr ⟨h'.1, h'.2, h''.1, h''.2⟩
  rw [if_neg hop, if_neg hop, if_neg h3, if_neg h3]
  by_cases c4 : s.op = 4
  · rw [if_pos c4, if_pos c4]
    exact inter_mono _ h
  rw [if_neg c4, if_neg c4]
  by_cases c5 : s.op = 5
  · rw [if_pos c5, if_pos c5, sub_union, sub_trans h (sub_union_left _ _), sub_union_right]
    rfl
  · rw [if_neg c5, if_neg c5]
    exact h
theorem run_mono (l : List S) : ∀ r t : R, (∀ s ∈ l, s.op ≠ 3 ∧ (s.op = 2 → 0 ≤ s.n)) → r.sub t = true → (runP r l).sub (runP t l) = true := by
  induction l with
  | nil => intro r t _ h; exact h
  | cons s l ih =>
    intro r t hs h
    simp only [runP, List.foldl_cons] at ih ⊢
    exact ih _ _ (fun q hq => hs q (List.mem_cons_of_mem _ hq)) (step_mono (hs s List.mem_cons_self).1 (hs s List.mem_cons_self).2 h)
/-- the plain law of FnWalkMonotone -/
theorem mono_take {r t : R} {l : List S} (h1 : nearAll r l = true) (h2 : nearAll t [] = true) (h : r.sub t = true) (k : Nat) : (runS r ((l.map S.tame).take k)).sub (runS t ((l.map S.tame).take k)) = true := by
  obtain ⟨b1, n1, a1⟩ := nearAll_out h1
  obtain ⟨b2, _, _⟩ := nearAll_out h2
  have hl : ((l.map S.tame).take k).length ≤ 100 := by rw [List.length_take, List.length_map]; omega
  have ha : ∀ s ∈ (l.map S.tame).take k, Nr s ∧ s.op ≠ 3 ∧ (s.op = 2 → 0 ≤ s.n) := by
    intro s hs
    obtain ⟨q, hq, rfl⟩ := List.mem_map.1 (List.mem_of_mem_take hs)
    exact ⟨tame_nr (a1 q hq), tame_op q⟩
  rw [(run_near _ r 0 (b1.mono (by omega)) (by omega) (fun s hs => (ha s hs).1)).1, (run_near _ t 0 (b2.mono (by omega)) (by omega) (fun s hs => (ha s hs).1)).1]
  exact run_mono _ _ _ (fun s hs => (ha s hs).2) h
end Go.Proofs.Ytenhhkeajhkfoaa
