/- A step of the call's own slice is given another kind. Conditions: none. -/
import Derived.Test.YtenhhkeajhkfoaaOwnS
namespace Go.Proofs.Ytenhhkeajhkfoaa
open Go.RowKit

/-- the step with another kind -/
def S.as (s : S) (v : Int) : S := ⟨v, s.px, s.py, s.n, s.r⟩
theorem sflat_set (l : List S) (k : Nat) (hk : k < l.length) (v : Int) : sflat (l.set k (l[k].as v)) = (sflat l).set (k * 8) (.int .i64 v) := by
  induction l generalizing k with
  | nil => simp at hk
  | cons s l ih =>
    cases k with
    | zero => rfl
    | succ k =>
      have h := ih k (by simpa using hk)
      have e : (k + 1) * 8 = k * 8 + 8 := by omega
      rw [e]
      have e2 : sflat (s :: l) = sflat1 s ++ sflat l := by simp [sflat]
      have e3 : sflat ((s :: l).set (k + 1) ((s :: l)[k + 1].as v)) = sflat1 s ++ sflat (l.set k (l[k]'(by simpa using hk) |>.as v)) := by simp [sflat]
      rw [e2, e3, h]
      rfl
theorem OwnS.open_ {w : World} {base g n c : Nat} {o : Nat} {l : List S} (h : OwnS w base (.slice (some ⟨g, o, none⟩) n c) l) : o = 0 ∧ n = l.length ∧ base ≤ g ∧ ∃ cur : Array Value, w.heap[g]? = some (.cells cur 31 (0, 0)) ∧ l.length * 8 ≤ cur.size ∧ cur.toList.take (l.length * 8) = sflat l := by
  rcases h.2 with ⟨e, _⟩ | ⟨g', cap, cur, e, hg, hh, hn, _, hs, ht⟩
  · cases e
  · injection e with e1 e2 e3
    injection e1 with e1
    injection e1 with e1 e4
    subst e1 e2 e3 e4
    exact ⟨rfl, rfl, hg, cur, hh, by rw [hs]; exact Nat.mul_le_mul_right 8 hn, ht⟩
theorem OwnS.frozen {w : World} {base g n c o i : Nat} {l : List S} (h : OwnS w base (.slice (some ⟨g, o, none⟩) n c) l) : w.frozen? ⟨g, i, none⟩ = false := by
  obtain ⟨_, _, _, cur, hh, _⟩ := h.open_
  simp [World.frozen?, hh]
theorem OwnS.setop {w : World} {base g n c : Nat} {l : List S} (h : OwnS w base (.slice (some ⟨g, 0, none⟩) n c) l) {k : Nat} (hk : k < l.length) (v : Int) :
    OwnS (w.setCell ⟨g, k * 8, none⟩ (.int .i64 v)) base (.slice (some ⟨g, 0, none⟩) n c) (l.set k (l[k].as v)) := by
  refine ⟨by rw [sflat_length], ?_⟩
  rcases h.2 with ⟨e, _⟩ | ⟨g', cap, cur, e, hg, hh, hn, hc, hs, ht⟩
  · cases e
  · injection e with e1 e2 e3
    injection e1 with e1
    injection e1 with e1 e4
    subst e1 e2 e3
    refine .inr ⟨g, c, _, by rw [List.length_set], hg, blk_set hh _ _, by rw [List.length_set]; exact hn, hc, by rw [Array.size_setIfInBounds]; exact hs, ?_⟩
    rw [List.length_set, sflat_set l k hk v, ← ht, Array.toList_setIfInBounds]
    apply List.ext_getElem?
    intro i
    simp only [List.getElem?_take, List.getElem?_set, List.length_take]
    by_cases hi : i < l.length * 8
    · simp only [hi, if_true]
      by_cases hik : k * 8 = i
      · subst hik
        have : cur.toList.length = c * 8 := by rw [Array.length_toList]; exact hs
        simp only [if_true]
        rw [if_pos (by omega), if_pos (by omega)]
      · simp [hik]
    · have : ¬ k * 8 = i := by omega
      simp [hi, this]
end Go.Proofs.Ytenhhkeajhkfoaa
