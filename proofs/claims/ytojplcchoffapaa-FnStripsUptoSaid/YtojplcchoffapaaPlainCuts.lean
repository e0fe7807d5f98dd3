/- Plain words for cuts: the numbers of a list from lo to hi; a sorted row of cuts; a slice of them. Conditions: as each says. -/
import Derived.Test.YtojplcchoffapaaSorted
namespace Go.Proofs.Ytojplcchoffapaa
open Go.RowKit

/-- the numbers of a list from lo to hi -/
def within (lo hi : Int) (l : List Int) : List Int := l.filter fun y => decide (lo ≤ y) && decide (y ≤ hi)
theorem within_snoc (lo hi : Int) (l : List Int) (k : Nat) (h : k < l.length) : within lo hi (l.take (k + 1)) = if lo ≤ l[k] ∧ l[k] ≤ hi then within lo hi (l.take k) ++ [l[k]] else within lo hi (l.take k) := by
  unfold within
  rw [List.take_succ_eq_append_getElem h, List.filter_append]
  by_cases h2 : lo ≤ l[k] ∧ l[k] ≤ hi
  · rw [if_pos h2]
    simp [h2]
  · rw [if_neg h2]
    simp only [List.filter_cons, List.filter_nil]
    rw [if_neg (by simpa using h2), List.append_nil]
theorem within_length (lo hi : Int) (l : List Int) (k : Nat) : (within lo hi (l.take k)).length ≤ l.length :=
  Nat.le_trans (List.length_filter_le _ _) (by rw [List.length_take]; omega)

/-- the cuts from lo to hi: in order, the first lo, the last hi -/
def Cuts (lo hi : Int) (l : List Int) : Prop := 2 ≤ l.length ∧ l.Pairwise (· ≤ ·) ∧ l.getD 0 0 = lo ∧ l.getD (l.length - 1) 0 = hi
theorem cuts_mk {lo hi : Int} {m : List Int} (h : lo ≤ hi) (hm : m.Pairwise (· ≤ ·)) (hb : ∀ y ∈ m, lo ≤ y ∧ y ≤ hi) : Cuts lo hi ([lo] ++ m ++ [hi]) := by
  refine ⟨by simp, ?_, by simp, ?_⟩
  · rw [List.pairwise_append, List.pairwise_append]
    refine ⟨⟨by simp, hm, fun x hx y hy => ?_⟩, by simp, fun x hx y hy => ?_⟩
    · simp only [List.mem_singleton] at hx
      rw [hx]
      exact (hb y hy).1
    · simp only [List.mem_singleton] at hy
      rw [hy]
      rw [List.mem_append, List.mem_singleton] at hx
      rcases hx with hx | hx
      · omega
      · exact (hb x hx).2
  · have e : ([lo] ++ m ++ [hi]).length - 1 = ([lo] ++ m).length := by simp
    rw [e]
    simp
theorem Cuts.le {lo hi : Int} {l : List Int} (h : Cuts lo hi l) {i k : Nat} (hik : i ≤ k) (hk : k < l.length) : l.getD i 0 ≤ l.getD k 0 := by
  have e1 : l.getD i 0 = l[i]'(by omega) := by simp [show i < l.length by omega]
  have e2 : l.getD k 0 = l[k] := by simp [hk]
  rw [e1, e2]
  rcases Nat.lt_or_ge i k with h1 | h1
  · exact List.pairwise_iff_getElem.1 h.2.1 i k (by omega) hk h1
  · obtain rfl : i = k := by omega
    exact Int.le_refl _
theorem Cuts.lo_le {lo hi : Int} {l : List Int} (h : Cuts lo hi l) {k : Nat} (hk : k < l.length) : lo ≤ l.getD k 0 := by
  have := h.le (Nat.zero_le k) hk
  rw [h.2.2.1] at this
  exact this
theorem Cuts.le_hi {lo hi : Int} {l : List Int} (h : Cuts lo hi l) {k : Nat} (hk : k < l.length) : l.getD k 0 ≤ hi := by
  have := h.le (i := k) (k := l.length - 1) (by omega) (by omega)
  rw [h.2.2.2] at this
  exact this

/-- the value is a slice of the cuts from lo to hi, at most n + 2 -/
def CutsV (u : World) (v : Value) (lo hi : Int) (n : Nat) : Prop := ∃ A c l, v = .slice A l.length c ∧ Cuts lo hi l ∧ l.length ≤ n + 2 ∧ Nums u A l
theorem CutsV.by {u u' : World} {v : Value} {lo hi : Int} {n : Nat} (h : CutsV u v lo hi n) (hb : Below u.heap.size u u') : CutsV u' v lo hi n := by
  obtain ⟨A, c, l, e, h1, h2, h3⟩ := h
  exact ⟨A, c, l, e, h1, h2, h3.by hb⟩
end Go.Proofs.Ytojplcchoffapaa
