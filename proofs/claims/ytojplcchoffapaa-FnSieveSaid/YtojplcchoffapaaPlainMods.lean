/- The plain laws of Mod: of a sum; of a window. Conditions: as each says. -/
import Derived.Test.YtojplcchoffapaaMods
namespace Go.Proofs.Ytojplcchoffapaa
open Go.RowKit

theorem modI_sum (x a n d : Int) : modI (modI x a n + d) a n = modI (x + d) a n := by
  unfold modI
  have e : a + (x - a) % n + d - a = (x - a) % n + d := by omega
  rw [e, Int.emod_add_emod]
  congr 2
  omega
theorem modI_in (x a n : Int) (h : 0 < n) : a ≤ modI x a n ∧ modI x a n < a + n := by
  have h1 := Int.emod_nonneg (x - a) (show n ≠ 0 by omega)
  have h2 := Int.emod_lt_of_pos (x - a) h
  unfold modI
  omega
theorem modP_in (a b c d x y : Int) (h1 : a < c) (h2 : b < d) : inB (modI x a (c - a)) (modI y b (d - b)) a b c d = true := by
  have h3 := modI_in x a (c - a) (by omega)
  have h4 := modI_in y b (d - b) (by omega)
  simp [inB]
  omega

/-- where the point k of a window is led to -/
def spotW (a b x y w h : Int) (k : Nat) : Int := (modI (y + (k : Int) / w) b h - b) * w + modI (x + (k : Int) % w) a w - a
theorem spotW_eq (a b x y w h : Int) (k : Nat) : spotW a b x y w h k = (y - b + (k : Int) / w) % h * w + (x - a + (k : Int) % w) % w := by
  unfold spotW modI
  rw [show y + (k : Int) / w - b = y - b + (k : Int) / w by omega, show x + (k : Int) % w - a = x - a + (k : Int) % w by omega]
  rw [show b + (y - b + (k : Int) / w) % h - b = (y - b + (k : Int) / w) % h by omega]
  omega
theorem emod_close {s t u n : Int} (hn : 0 < n) (h : (s + t) % n = (s + u) % n) (ht : 0 ≤ t) (ht2 : t < n) (hu : 0 ≤ u) (hu2 : u < n) : t = u := by
  have h1 := Int.emod_emod_of_dvd
  have h2 : (s + t - (s + u)) % n = 0 := Int.emod_eq_emod_iff_emod_sub_eq_zero.1 h
  have h3 : n ∣ t - u := by
    have := Int.dvd_of_emod_eq_zero h2
    rwa [show s + t - (s + u) = t - u by omega] at this
  obtain ⟨q, hq⟩ := h3
  rcases Int.lt_trichotomy q 0 with h4 | h4 | h4
  · have : n * q ≤ n * (-1) := Int.mul_le_mul_of_nonneg_left (by omega) (by omega)
    omega
  · subst h4; omega
  · have : n * 1 ≤ n * q := Int.mul_le_mul_of_nonneg_left (by omega) (by omega)
    omega
theorem spotW_range (a b x y w h : Int) (k : Nat) (hw : 0 < w) (hh : 0 < h) : 0 ≤ spotW a b x y w h k ∧ spotW a b x y w h k < w * h := by
  rw [spotW_eq]
  have h1 := Int.emod_nonneg (y - b + (k : Int) / w) (show h ≠ 0 by omega)
  have h2 := Int.emod_lt_of_pos (y - b + (k : Int) / w) hh
  have h3 := Int.emod_nonneg (x - a + (k : Int) % w) (show w ≠ 0 by omega)
  have h4 := Int.emod_lt_of_pos (x - a + (k : Int) % w) hw
  generalize (y - b + (k : Int) / w) % h = e at *
  generalize (x - a + (k : Int) % w) % w = f at *
  have h5 : e * w ≤ (h - 1) * w := Int.mul_le_mul_of_nonneg_right (by omega) (by omega)
  have h6 : 0 ≤ e * w := Int.mul_nonneg h1 (by omega)
  rw [Int.sub_mul, Int.mul_comm h w] at h5
  omega
theorem spotW_inj (a b x y w h : Int) (i k : Nat) (hw : 0 < w) (hh : 0 < h) (hi : (i : Int) < w * h) (hk : (k : Int) < w * h) (he : spotW a b x y w h i = spotW a b x y w h k) : i = k := by
  rw [spotW_eq, spotW_eq] at he
  have h3 := Int.emod_nonneg (x - a + (i : Int) % w) (show w ≠ 0 by omega)
  have h4 := Int.emod_lt_of_pos (x - a + (i : Int) % w) hw
  have h5 := Int.emod_nonneg (x - a + (k : Int) % w) (show w ≠ 0 by omega)
  have h6 := Int.emod_lt_of_pos (x - a + (k : Int) % w) hw
  have key : ∀ e e' f f' : Int, e * w + f = e' * w + f' → 0 ≤ f → f < w → 0 ≤ f' → f' < w → e = e' ∧ f = f' := by
    intro e e' f f' h0 hf hf2 hf3 hf4
    have h1 : (e - e') * w = f' - f := by rw [Int.sub_mul]; omega
    have : e = e' := by
      rcases Int.lt_trichotomy (e - e') 0 with h7 | h7 | h7
      · have : (e - e') * w ≤ (-1) * w := Int.mul_le_mul_of_nonneg_right (by omega) (by omega)
        omega
      · omega
      · have : 1 * w ≤ (e - e') * w := Int.mul_le_mul_of_nonneg_right (by omega) (by omega)
        omega
    subst this
    exact ⟨rfl, by omega⟩
  obtain ⟨h1, h2⟩ := key _ _ _ _ he h3 h4 h5 h6
  have g1 := emod_close hw h2 (Int.emod_nonneg _ (by omega)) (Int.emod_lt_of_pos _ hw) (Int.emod_nonneg _ (by omega)) (Int.emod_lt_of_pos _ hw)
  have g2 := emod_close hh h1 (Int.ediv_nonneg (by omega) (by omega)) (Int.ediv_lt_of_lt_mul hw (by rw [Int.mul_comm]; exact hi)) (Int.ediv_nonneg (by omega) (by omega)) (Int.ediv_lt_of_lt_mul hw (by rw [Int.mul_comm]; exact hk))
  have e1 := Int.mul_ediv_add_emod (i : Int) w
  have e2 := Int.mul_ediv_add_emod (k : Int) w
  rw [g1, g2] at e1
  omega

/-- the marks behind k points -/
def marks (f : Nat → Nat) (n k : Nat) : List Value := (List.range n).map fun j => Value.bool (decide (∃ i, i < k ∧ f i = j))
theorem marks_zero (f : Nat → Nat) (n : Nat) : marks f n 0 = List.replicate n (.bool false) := by
  unfold marks
  rw [List.eq_replicate_iff]
  refine ⟨by simp, fun v hv => ?_⟩
  rw [List.mem_map] at hv
  obtain ⟨j, _, rfl⟩ := hv
  simp
theorem marks_get (f : Nat → Nat) (n k : Nat) (hk : f k < n) (hi : ∀ i, i < k → f i ≠ f k) : (marks f n k)[f k]? = some (.bool false) := by
  unfold marks
  rw [List.getElem?_map, List.getElem?_range hk]
  simp only [Option.map_some, Option.some.injEq, Value.bool.injEq, decide_eq_false_iff_not]
  rintro ⟨i, h1, h2⟩
  exact hi i h1 h2
theorem marks_succ (f : Nat → Nat) (n k : Nat) : (marks f n k).set (f k) (.bool true) = marks f n (k + 1) := by
  apply List.ext_getElem
  · simp [marks]
  · intro j h1 h2
    rw [List.getElem_set]
    simp only [marks, List.getElem_map, List.getElem_range]
    by_cases h : f k = j
    · rw [if_pos h]
      simp only [Value.bool.injEq]
      rw [eq_comm, decide_eq_true_eq]
      exact ⟨k, by omega, h⟩
    · rw [if_neg h]
      simp only [Value.bool.injEq, decide_eq_decide]
      constructor
      · rintro ⟨i, h3, h4⟩
        exact ⟨i, by omega, h4⟩
      · rintro ⟨i, h3, h4⟩
        refine ⟨i, ?_, h4⟩
        rcases Nat.lt_or_ge i k with h5 | h5
        · exact h5
        · obtain rfl : i = k := by omega
          exact absurd h4 h
end Go.Proofs.Ytojplcchoffapaa
