/- The plain law of FnSieve: the number of points of a grid that lie in at least one of at most five rectangles is the sum over all choices. Conditions: numbers from -8 to 8, at most five rectangles. -/
import Derived.Test.YtojplcchoffapaaPlainPts
namespace Go.Proofs.Ytojplcchoffapaa

/-- a sum of n terms -/
def sumN (f : Nat → Int) : Nat → Int
  | 0 => 0
  | n + 1 => sumN f n + f n
theorem sumN_congr {f g : Nat → Int} {n : Nat} (h : ∀ i, i < n → f i = g i) : sumN f n = sumN g n := by
  induction n with
  | zero => rfl
  | succ n ih => rw [sumN, sumN, ih fun i hi => h i (by omega), h n (by omega)]
theorem sumN_add (f g : Nat → Int) (n : Nat) : sumN (fun i => f i + g i) n = sumN f n + sumN g n := by
  induction n with
  | zero => rfl
  | succ n ih => rw [sumN, sumN, sumN, ih]; omega
theorem sumN_zero (n : Nat) : sumN (fun _ => 0) n = 0 := by
  induction n with
  | zero => rfl
  | succ n ih => rw [sumN, ih]; omega
theorem sumN_mul (c : Int) (f : Nat → Int) (n : Nat) : sumN (fun i => c * f i) n = c * sumN f n := by
  induction n with
  | zero => simp [sumN]
  | succ n ih => rw [sumN, sumN, ih, Int.mul_add]
theorem sumN_mul' (c : Int) (f : Nat → Int) (n : Nat) : sumN (fun i => f i * c) n = sumN f n * c := by
  induction n with
  | zero => simp [sumN]
  | succ n ih => rw [sumN, sumN, ih, Int.add_mul]
theorem sumN_swap (f : Nat → Nat → Int) (n m : Nat) : sumN (fun i => sumN (fun j => f i j) m) n = sumN (fun j => sumN (fun i => f i j) n) m := by
  induction n with
  | zero => simp only [sumN]; rw [sumN_zero]
  | succ n ih => simp only [sumN]; rw [ih, sumN_add]

/-- the members of a list that a set's bits choose -/
def pick {α : Type} : List α → Nat → List α
  | [], _ => []
  | r :: l, s => if s % 2 = 1 then r :: pick l (s / 2) else pick l (s / 2)
theorem pick_snoc {α : Type} (l : List α) (r : α) (s : Nat) : pick (l ++ [r]) s = if s / 2 ^ l.length % 2 = 1 then pick l s ++ [r] else pick l s := by
  induction l generalizing s with
  | nil => simp [pick]
  | cons x l ih =>
    simp only [List.cons_append, pick, ih (s / 2), List.length_cons]
    rw [Nat.div_div_eq_div_mul, ← Nat.pow_succ']
    split <;> split <;> simp_all
theorem pick_length {α : Type} (l : List α) (s : Nat) : (pick l s).length ≤ l.length := by
  induction l generalizing s with
  | nil => simp [pick]
  | cons x l ih =>
    simp only [pick]
    have := ih (s / 2)
    split <;> simp <;> omega
theorem pick_map {α β : Type} (f : α → β) (l : List α) (s : Nat) : pick (l.map f) s = (pick l s).map f := by
  induction l generalizing s with
  | nil => simp [pick]
  | cons x l ih =>
    simp only [List.map_cons, pick, ih]
    split <;> simp
theorem pick_mem {α : Type} (l : List α) (s : Nat) {x : α} (h : x ∈ pick l s) : x ∈ l := by
  induction l generalizing s with
  | nil => simp [pick] at h
  | cons y l ih =>
    simp only [pick] at h
    split at h
    · rw [List.mem_cons] at h
      rcases h with h | h
      · simp [h]
      · exact List.mem_cons_of_mem _ (ih _ h)
    · exact List.mem_cons_of_mem _ (ih _ h)
theorem pick_ne {α : Type} (l : List α) (s : Nat) (h0 : s ≠ 0) (h : s < 2 ^ l.length) : pick l s ≠ [] := by
  induction l generalizing s with
  | nil => simp at h; omega
  | cons x l ih =>
    simp only [pick]
    split
    · simp
    · rw [List.length_cons, Nat.pow_succ] at h
      exact ih (s / 2) (by omega) (by omega)

def ind (b : Bool) : Int := if b then 1 else 0
/-- the sign of a choice -/
def sgn (n : Nat) : Int := if n % 2 = 0 then -1 else 1
/-- the sum over the choices 1 .. m of a list of truths -/
def incl (l : List Bool) (m : Nat) : Int := sumN (fun i => sgn (pick l (i + 1)).length * ind ((pick l (i + 1)).all id)) m
theorem incl_any (l : List Bool) (h : l.length ≤ 5) : incl l (2 ^ l.length - 1) = ind (l.any id) := by
  match l, h with
  | [], _ => rfl
  | [a], _ => revert a; decide
  | [a, b], _ => revert a b; decide
  | [a, b, c], _ => revert a b c; decide
  | [a, b, c, d], _ => revert a b c d; decide +kernel
  | [a, b, c, d, e], _ => revert a b c d e; decide +kernel
  | _ :: _ :: _ :: _ :: _ :: _ :: _, h => simp at h

/-- the points of the grid -/
def pt (i : Nat) : Int := -8 + i
/-- how many of the n points of the grid's first axis lie from a to c -/
theorem axis_count : ∀ a c : Fin 17, a ≤ c → sumN (fun i => ind (decide ((a.val : Int) - 8 ≤ pt i) && decide (pt i < (c.val : Int) - 8))) 16 = (c.val : Int) - a.val := by decide +kernel
theorem axis (a c : Int) (h1 : -8 ≤ a) (h2 : a ≤ c) (h3 : c ≤ 8) : sumN (fun i => ind (decide (a ≤ pt i) && decide (pt i < c))) 16 = c - a := by
  have h := axis_count ⟨(a + 8).toNat, by omega⟩ ⟨(c + 8).toNat, by omega⟩ (by simp; omega)
  simp only at h
  rw [Int.toNat_of_nonneg (by omega), Int.toNat_of_nonneg (by omega)] at h
  rw [show a + 8 - 8 = a by omega, show c + 8 - 8 = c by omega] at h
  omega
theorem ind_and (a b : Bool) : ind (a && b) = ind a * ind b := by cases a <;> cases b <;> rfl
def gridN (f : Int → Int → Bool) : Int := sumN (fun i => sumN (fun j => ind (f (pt i) (pt j))) 16) 16
/-- all numbers from -8 to 8 -/
def Sm (r : R) : Prop := (-8 ≤ r.x0 ∧ r.x0 ≤ 8) ∧ (-8 ≤ r.y0 ∧ r.y0 ≤ 8) ∧ (-8 ≤ r.x1 ∧ r.x1 ≤ 8) ∧ -8 ≤ r.y1 ∧ r.y1 ≤ 8
def areaR (r : R) : Int := if r.empty then 0 else (r.x1 - r.x0) * (r.y1 - r.y0)
theorem area_grid (r : R) (h : Sm r) : gridN r.has = areaR r := by
  obtain ⟨h1, h2, h3, h4⟩ := h
  unfold areaR gridN
  by_cases he : r.empty = true
  · rw [if_pos he]
    have : ∀ x y, r.has x y = false := by
      intro x y
      simp only [R.empty, emptyB, Bool.or_eq_true, decide_eq_true_eq] at he
      simp [R.has, inB]
      omega
    simp only [this]
    rw [show (fun i : Nat => sumN (fun j => ind false) 16) = fun _ => 0 from funext fun _ => by decide, sumN_zero]
  · rw [if_neg he]
    simp only [R.empty, emptyB, Bool.not_eq_true, Bool.or_eq_false_iff, decide_eq_false_iff_not] at he
    have e : ∀ i j, ind (r.has (pt i) (pt j)) = ind (decide (r.x0 ≤ pt i) && decide (pt i < r.x1)) * ind (decide (r.y0 ≤ pt j) && decide (pt j < r.y1)) := by
      intro i j
      rw [← ind_and]
      congr 1
      simp only [R.has, inB, Bool.and_assoc]
    simp only [e]
    simp only [sumN_mul, sumN_mul']
    rw [axis _ _ h1.1 (by omega) (by omega), axis _ _ h2.1 (by omega) (by omega)]
theorem inter_sm {r s : R} (hr : Sm r) (hs : Sm s) : Sm (inter r s) := by
  unfold inter
  split
  · simp [Sm]
  · simp only [Sm, core] at *
    refine ⟨?_, ?_, ?_, ?_⟩ <;> split <;> omega
theorem acc_sm (l : List R) (h : ∀ r ∈ l, Sm r) : Sm (acc inter l) := by
  cases l with
  | nil => simp [acc, Sm]
  | cons r l =>
    simp only [acc]
    have h0 := h r (by simp)
    have hl : ∀ s ∈ l, Sm s := fun s hs => h s (by simp [hs])
    clear h
    induction l generalizing r with
    | nil => exact h0
    | cons s l ih =>
      rw [List.foldl_cons]
      exact ih (inter r s) (inter_sm h0 (hl s (by simp))) fun t ht => hl t (by simp [ht])
theorem acc_has (l : List R) (h : l ≠ []) (x y : Int) : (acc inter l).has x y = l.all fun r => r.has x y := by
  have hl : 0 < l.length := List.length_pos_iff.2 h
  have := has_acc_inter l x y (l.length - 1) (by omega)
  rw [show l.length - 1 + 1 = l.length by omega, List.take_length] at this
  rw [this, allIn, List.take_length]

/-- the sum of the areas of the choices 1 .. m -/
def sums (l : List R) (m : Nat) : Int := sumN (fun i => sgn (pick l (i + 1)).length * areaR (acc inter (pick l (i + 1)))) m
/-- how many points of the grid lie in at least one -/
def count (l : List R) : Int := gridN fun x y => l.any fun r => r.has x y
theorem sieve_law (l : List R) (h5 : l.length ≤ 5) (hl : ∀ r ∈ l, Sm r) : sums l (2 ^ l.length - 1) = count l := by
  unfold sums count
  have e1 : ∀ i, i < 2 ^ l.length - 1 → sgn (pick l (i + 1)).length * areaR (acc inter (pick l (i + 1))) =
      sumN (fun x => sumN (fun y => sgn (pick l (i + 1)).length * ind ((pick l (i + 1)).all fun r => r.has (pt x) (pt y))) 16) 16 := by
    intro i hi
    rw [← area_grid _ (acc_sm _ fun r hr => hl r (pick_mem l _ hr))]
    unfold gridN
    simp only [acc_has _ (pick_ne l (i + 1) (by omega) (by omega)), sumN_mul]
  rw [sumN_congr e1, sumN_swap]
  unfold gridN
  refine sumN_congr fun x _ => ?_
  rw [sumN_swap]
  refine sumN_congr fun y _ => ?_
  have h := incl_any (l.map fun r => r.has (pt x) (pt y)) (by simpa using h5)
  rw [List.length_map] at h
  have e2 : (l.map fun r => r.has (pt x) (pt y)).any id = l.any fun r => r.has (pt x) (pt y) := by simp [List.any_map]
  show _ = ind (l.any fun r => r.has (pt x) (pt y))
  rw [← e2, ← h]
  unfold incl
  refine sumN_congr fun i _ => ?_
  rw [pick_map, List.length_map]
  simp [List.all_map]
end Go.Proofs.Ytojplcchoffapaa
