/- Plain: a list's running intersections or unions. No program in sight. Conditions: none. -/
import Derived.Test.YtojplcchoffapaaPlain
namespace Go.Proofs.Ytojplcchoffapaa

/-- the rectangle that comes of a list, from the left -/
def acc (f : R → R → R) : List R → R
  | [] => ⟨0, 0, 0, 0⟩
  | r :: l => l.foldl f r
/-- the first k of a list's running ones -/
def accs (f : R → R → R) (l : List R) (k : Nat) : List R := (List.range k).map fun i => acc f (l.take (i + 1))

theorem acc_snoc (f : R → R → R) (l : List R) (r : R) (h : l ≠ []) : acc f (l ++ [r]) = f (acc f l) r := by
  cases l with
  | nil => exact absurd rfl h
  | cons x l => simp [acc, List.foldl_append]
theorem accs_length (f : R → R → R) (l : List R) (k : Nat) : (accs f l k).length = k := by simp [accs]
theorem accs_succ (f : R → R → R) (l : List R) (k : Nat) : accs f l (k + 1) = accs f l k ++ [acc f (l.take (k + 1))] := by
  simp [accs, List.range_succ]
theorem accs_get (f : R → R → R) (l : List R) (k i : Nat) (h : i < k) : (accs f l k)[i]'(by rw [accs_length]; exact h) = acc f (l.take (i + 1)) := by
  simp [accs]
theorem acc_first (f : R → R → R) (l : List R) (h : 0 < l.length) : acc f (l.take 1) = l[0] := by
  cases l with
  | nil => simp at h
  | cons x l => simp [acc]
theorem acc_step (f : R → R → R) (l : List R) (k : Nat) (h : k < l.length) (h0 : 0 < k) : acc f (l.take (k + 1)) = f (acc f (l.take k)) l[k] := by
  rw [List.take_succ_eq_append_getElem h, acc_snoc]
  intro hn
  have : (l.take k).length = 0 := by rw [hn]; rfl
  rw [List.length_take] at this
  omega
end Go.Proofs.Ytojplcchoffapaa
