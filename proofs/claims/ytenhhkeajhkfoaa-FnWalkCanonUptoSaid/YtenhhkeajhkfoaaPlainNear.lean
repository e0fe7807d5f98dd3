/- Plain: scripts of near numbers do not wrap around. -/
import Derived.Test.YtenhhkeajhkfoaaPlainCut
import Derived.Test.YtenhhkeajhkfoaaSteps
namespace Go.Proofs.Ytenhhkeajhkfoaa
open Go.RowKit

/-- no coordinate beyond K -/
def Bd (K : Int) (r : R) : Prop := (-K ≤ r.x0 ∧ r.x0 ≤ K) ∧ (-K ≤ r.y0 ∧ r.y0 ≤ K) ∧ (-K ≤ r.x1 ∧ r.x1 ≤ K) ∧ (-K ≤ r.y1 ∧ r.y1 ≤ K)
/-- a step of near numbers -/
def Nr (s : S) : Prop := (-1125899906842624 ≤ s.px ∧ s.px ≤ 1125899906842624) ∧ (-1125899906842624 ≤ s.py ∧ s.py ≤ 1125899906842624) ∧ (-1125899906842624 ≤ s.n ∧ s.n ≤ 1125899906842624) ∧ Bd 1125899906842624 s.r
theorem Bd.mono {K K' : Int} {r : R} (h : Bd K r) (hK : K ≤ K') : Bd K' r := by
  unfold Bd at *
  omega

/-- the middle, or further in by n -/
def pLo (a c n : Int) : Int := if c - a < 2 * n then (a + c).tdiv 2 else a + n
def pHi (a c n : Int) : Int := if c - a < 2 * n then (a + c).tdiv 2 else c - n
/-- a step, of integers that do not wrap around -/
def stepP (s : S) (r : R) : R :=
  if s.op = 0 then ⟨r.x0 + s.px, r.y0 + s.py, r.x1 + s.px, r.y1 + s.py⟩ else if s.op = 1 then ⟨r.x0 - s.px, r.y0 - s.py, r.x1 - s.px, r.y1 - s.py⟩
  else if s.op = 2 then ⟨pLo r.x0 r.x1 s.n, pLo r.y0 r.y1 s.n, pHi r.x0 r.x1 s.n, pHi r.y0 r.y1 s.n⟩ else if s.op = 3 then canonR r else if s.op = 4 then inter r s.r else if s.op = 5 then union r s.r else r

theorem tdiv2 (v : Int) : (0 ≤ v → v.tdiv 2 = v / 2) ∧ (v ≤ 0 → v.tdiv 2 = -((-v) / 2)) := by
  refine ⟨fun h => Int.tdiv_eq_ediv_of_nonneg h, fun h => ?_⟩
  have h1 : (-v).tdiv 2 = (-v) / 2 := Int.tdiv_eq_ediv_of_nonneg (by omega)
  rw [Int.neg_tdiv] at h1
  omega
theorem tdiv2_mid (a c K : Int) (ha : -K ≤ a ∧ a ≤ K) (hc : -K ≤ c ∧ c ≤ K) : -K ≤ (a + c).tdiv 2 ∧ (a + c).tdiv 2 ≤ K := by
  obtain ⟨h1, h2⟩ := tdiv2 (a + c)
  rcases Int.le_total 0 (a + c) with h | h
  · rw [h1 h]; omega
  · rw [h2 h]; omega
theorem ins_eq (a c n : Int) (ha : -144115188075855872 ≤ a ∧ a ≤ 144115188075855872) (hc : -144115188075855872 ≤ c ∧ c ≤ 144115188075855872) (hn : -1125899906842624 ≤ n ∧ n ≤ 1125899906842624) :
    insLo a c n = pLo a c n ∧ insHi a c n = pHi a c n := by
  have hm := tdiv2_mid a c 144115188075855872 ha hc
  unfold insLo insHi pLo pHi
  rw [IntWalk.wrap64_in (c - a) (by omega), IntWalk.wrap64_in (2 * n) (by omega), IntWalk.wrap64_in (a + c) (by omega), IntWalk.wrap64_in ((a + c).tdiv 2) (by omega), IntWalk.wrap64_in (a + n) (by omega), IntWalk.wrap64_in (c - n) (by omega)]
  exact ⟨rfl, rfl⟩
theorem pLo_bd (a c n K : Int) (ha : -K ≤ a ∧ a ≤ K) (hc : -K ≤ c ∧ c ≤ K) (hn : -1125899906842624 ≤ n ∧ n ≤ 1125899906842624) : (-(K + 1125899906842624) ≤ pLo a c n ∧ pLo a c n ≤ K + 1125899906842624) ∧ (-(K + 1125899906842624) ≤ pHi a c n ∧ pHi a c n ≤ K + 1125899906842624) := by
  have hm := tdiv2_mid a c K ha hc
  unfold pLo pHi
  split <;> omega
theorem core_bd {K : Int} {r s : R} (hr : Bd K r) (hs : Bd K s) : Bd K (core r s) := by
  unfold Bd core at *
  dsimp only
  refine ⟨?_, ?_, ?_, ?_⟩ <;> split <;> omega
theorem hull_bd {K : Int} {r s : R} (hr : Bd K r) (hs : Bd K s) : Bd K (hull r s) := by
  unfold Bd hull at *
  dsimp only
  refine ⟨?_, ?_, ?_, ?_⟩ <;> split <;> omega
theorem canon_bd {K : Int} {r : R} (hr : Bd K r) : Bd K (canonR r) := by
  unfold Bd canonR at *
  dsimp only
  refine ⟨?_, ?_, ?_, ?_⟩ <;> split <;> omega
theorem inter_bd {K : Int} (h0 : 0 ≤ K) {r s : R} (hr : Bd K r) (hs : Bd K s) : Bd K (inter r s) := by
  unfold inter
  split
  · unfold Bd; dsimp only; omega
  · exact core_bd hr hs
theorem union_bd {K : Int} {r s : R} (hr : Bd K r) (hs : Bd K s) : Bd K (union r s) := by
  unfold union
  split
  · exact hs
  split
  · exact hr
  · exact hull_bd hr hs

theorem on_near {K : Int} {r : R} {s : S} (hr : Bd K r) (h1 : 1125899906842624 ≤ K) (h2 : K ≤ 144115188075855872) (hs : Nr s) : s.on r = stepP s r ∧ Bd (K + 1125899906842624) (stepP s r) := by
  obtain ⟨hx, hy, hn, hsr⟩ := hs
  have hr' := hr.mono h2
  unfold S.on stepR stepP
  split
  · obtain ⟨b0, b1, b2, b3⟩ := hr
    refine ⟨?_, ?_⟩
    · unfold addR
      rw [IntWalk.wrap64_in _ (by omega), IntWalk.wrap64_in _ (by omega), IntWalk.wrap64_in _ (by omega), IntWalk.wrap64_in _ (by omega)]
    · unfold Bd; dsimp only; omega
  split
  · obtain ⟨b0, b1, b2, b3⟩ := hr
    refine ⟨?_, ?_⟩
    · unfold subR
      rw [IntWalk.wrap64_in _ (by omega), IntWalk.wrap64_in _ (by omega), IntWalk.wrap64_in _ (by omega), IntWalk.wrap64_in _ (by omega)]
    · unfold Bd; dsimp only; omega
  split
  · obtain ⟨b0, b1, b2, b3⟩ := hr
    obtain ⟨c0, c1, c2, c3⟩ := hr'
    refine ⟨?_, ?_⟩
    · unfold insetR
      rw [(ins_eq _ _ _ c0 c2 hn).1, (ins_eq _ _ _ c0 c2 hn).2, (ins_eq _ _ _ c1 c3 hn).1, (ins_eq _ _ _ c1 c3 hn).2]
    · have hx := pLo_bd _ _ _ _ b0 b2 hn
      have hy := pLo_bd _ _ _ _ b1 b3 hn
      exact ⟨hx.1, hy.1, hx.2, hy.2⟩
  split
  · exact ⟨rfl, (canon_bd hr).mono (by omega)⟩
  split
  · exact ⟨rfl, (inter_bd (by omega) hr (hsr.mono h1)).mono (by omega)⟩
  split
  · exact ⟨rfl, (union_bd hr (hsr.mono h1)).mono (by omega)⟩
  · exact ⟨rfl, hr.mono (by omega)⟩

/-- a near script -/
def runP (r : R) (l : List S) : R := l.foldl (fun r s => stepP s r) r
theorem run_near (l : List S) : ∀ (r : R) (j : Nat), Bd (1125899906842624 * (j + 1)) r → l.length + j ≤ 100 → (∀ s ∈ l, Nr s) → runS r l = runP r l ∧ Bd (1125899906842624 * 101) (runS r l) := by
  induction l with
  | nil => intro r j hr hl _; exact ⟨rfl, hr.mono (by simp at hl; omega)⟩
  | cons s l ih =>
    intro r j hr hl hs
    simp only [List.length_cons] at hl
    obtain ⟨e, hb⟩ := on_near hr (by omega) (by omega) (hs s List.mem_cons_self)
    have h := ih (s.on r) (j + 1) (by rw [e]; exact hb.mono (by omega)) (by omega) (fun t ht => hs t (List.mem_cons_of_mem _ ht))
    simp only [runS, runP, List.foldl_cons] at h ⊢
    rw [e] at h ⊢
    exact h
end Go.Proofs.Ytenhhkeajhkfoaa
