/- Plain laws of strips: what the strips of a rectangle are, that they do not overlap, their union, their widths. Conditions: as each says. -/
import Derived.Test.YtojplcchoffapaaPlainCuts
import Derived.Test.YtojplcchoffapaaPlainPts
namespace Go.Proofs.Ytojplcchoffapaa
open Go.RowKit

/-- the strip from p to q -/
def strip (b d p q : Int) : R := if p < q then ⟨p, b, q, d⟩ else ⟨0, 0, 0, 0⟩
theorem inter_strip {a b c d p q : Int} (hb : b < d) (h1 : a ≤ p) (h2 : p ≤ q) (h3 : q ≤ c) : inter ⟨a, b, c, d⟩ ⟨p, b, q, d⟩ = strip b d p q := by
  have hc : core ⟨a, b, c, d⟩ ⟨p, b, q, d⟩ = ⟨p, b, q, d⟩ := by
    simp only [core]
    congr 1
    · split <;> omega
    · split <;> omega
    · split <;> omega
    · split <;> omega
  unfold inter strip
  rw [hc]
  by_cases h : p < q
  · rw [if_neg (by simp [R.empty, emptyB]; omega), if_pos h]
  · rw [if_pos (by simp [R.empty, emptyB]; omega), if_neg h]
/-- the first k strips -/
def strips (b d : Int) (l : List Int) (k : Nat) : List R := (List.range k).map fun i => strip b d (l.getD i 0) (l.getD (i + 1) 0)
theorem strips_length (b d : Int) (l : List Int) (k : Nat) : (strips b d l k).length = k := by simp [strips]
theorem strips_succ (b d : Int) (l : List Int) (k : Nat) : strips b d l (k + 1) = strips b d l k ++ [strip b d (l.getD k 0) (l.getD (k + 1) 0)] := by simp [strips, List.range_succ]
theorem strips_get (b d : Int) (l : List Int) (k i : Nat) (h : i < k) : (strips b d l k)[i]'(by rw [strips_length]; exact h) = strip b d (l.getD i 0) (l.getD (i + 1) 0) := by simp [strips]
theorem strip_over {b d p q p' q' : Int} (h : q' ≤ p) : R.over (strip b d p q) (strip b d p' q') = false := by
  cases ho : R.over (strip b d p q) (strip b d p' q') with
  | false => rfl
  | true =>
    exfalso
    unfold strip at ho
    simp only [R.over, overB, emptyB, Bool.and_eq_true, Bool.not_eq_true', Bool.or_eq_false_iff, decide_eq_false_iff_not, decide_eq_true_eq] at ho
    split at ho <;> split at ho <;> simp only at ho <;> omega
theorem strips_over {lo hi : Int} {l : List Int} (hl : Cuts lo hi l) (b d : Int) (k i : Nat) (hi : i < k) (hk : k < l.length) (q : Int) : R.over (strip b d (l.getD k 0) q) (strip b d (l.getD i 0) (l.getD (i + 1) 0)) = false :=
  strip_over (hl.le (by omega) hk)
theorem union_strip {a b d p q : Int} (hb : b < d) (h1 : a ≤ p) (h2 : p ≤ q) : union (strip b d a p) (strip b d p q) = strip b d a q := by
  unfold strip union
  by_cases ha : a < p
  · rw [if_pos ha, if_neg (by simp [R.empty, emptyB]; omega), if_pos (show a < q by omega)]
    by_cases hp : p < q
    · rw [if_pos hp, if_neg (by simp [R.empty, emptyB]; omega)]
      simp only [hull]
      congr 1
      · split <;> omega
      · split <;> omega
      · split <;> omega
      · split <;> omega
    · rw [if_neg hp, if_pos (by simp [R.empty, emptyB])]
      congr 1
      omega
  · rw [if_neg ha, if_pos (by simp [R.empty, emptyB])]
    obtain rfl : a = p := by omega
    rfl
theorem acc_strips {lo hi : Int} {l : List Int} (hl : Cuts lo hi l) {b d : Int} (hb : b < d) (k : Nat) (hk : k + 1 < l.length) : acc union (strips b d l (k + 1)) = strip b d lo (l.getD (k + 1) 0) := by
  induction k with
  | zero =>
    rw [strips_succ]
    simp only [strips, List.range_zero, List.map_nil, List.nil_append, acc, List.foldl_nil]
    rw [hl.2.2.1]
  | succ k ih =>
    rw [strips_succ, acc_snoc _ _ _ (by intro h; have := strips_length b d l (k + 1); rw [h] at this; simp at this), ih (by omega)]
    exact union_strip hb (hl.lo_le (by omega)) (hl.le (by omega) hk)
theorem strip_wide {b d p q : Int} (h : p ≤ q) : (strip b d p q).x1 - (strip b d p q).x0 = q - p := by
  unfold strip
  split
  · rfl
  · simp only; omega
theorem wrap_add2 (u v : Int) : IntKind.i64.wrap (wrap64 u + wrap64 v) = wrap64 (u + v) := by
  rw [IntKind.wrap_i64]
  unfold wrap64
  omega
end Go.Proofs.Ytojplcchoffapaa
