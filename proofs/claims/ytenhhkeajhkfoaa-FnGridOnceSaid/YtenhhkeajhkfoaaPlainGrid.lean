/- Plain laws of a grid: how it counts a point; the cuts as clamp returns them. Conditions: as each says. -/
import Derived.Test.YtenhhkeajhkfoaaClamp
namespace Go.Proofs.Ytenhhkeajhkfoaa
open Go.RowKit

def ind (b : Bool) : Int := if b then 1 else 0
/-- how often the point is met in the columns before p; in the column from p to q, before s -/
def gI (t : Bool) (x p : Int) : Int := ind (t && decide (x < p))
def gC (t : Bool) (x p q y s : Int) : Int := ind (t && decide (p ≤ x) && decide (x < q) && decide (y < s))
theorem ind_dec (p : Prop) [Decidable p] : ind (decide p) = if p then 1 else 0 := by by_cases h : p <;> simp [ind, h]
theorem g_step (t : Bool) (x p q y s s' : Int) (h : s ≤ s') : gI t x p + gC t x p q y s + ind (t && inB x y p s q s') = gI t x p + gC t x p q y s' := by
  cases t with
  | false => simp [gI, gC, ind]
  | true =>
    simp only [gI, gC, inB, Bool.true_and, ← Bool.decide_and, ind_dec]
    repeat' split
    all_goals omega
theorem g_row (t : Bool) (x p q y s : Int) (h : t = true → s ≤ y) : gC t x p q y s = 0 := by
  cases t with
  | false => simp [gC, ind]
  | true =>
    have := h rfl
    simp only [gC, Bool.true_and, ← Bool.decide_and, ind_dec]
    rw [if_neg (by omega)]
theorem g_end (t : Bool) (x p q y s : Int) (hpq : p ≤ q) (h : t = true → y < s) : gI t x p + gC t x p q y s = gI t x q := by
  cases t with
  | false => simp [gI, gC, ind]
  | true =>
    have := h rfl
    simp only [gI, gC, Bool.true_and, ← Bool.decide_and, ind_dec]
    repeat' split
    all_goals omega
theorem g_first (t : Bool) (x p : Int) (h : t = true → p ≤ x) : gI t x p = 0 := by
  cases t with
  | false => simp [gI, ind]
  | true =>
    have := h rfl
    simp only [gI, Bool.true_and, ind_dec]
    rw [if_neg (by omega)]
theorem g_last (t : Bool) (x p : Int) (h : t = true → x < p) : gI t x p = ind t := by
  cases t with
  | false => simp [gI, ind]
  | true =>
    have := h rfl
    simp only [gI, Bool.true_and, ind_dec]
    rw [if_pos (by omega)]
    rfl
theorem gI_le (t : Bool) (x p : Int) : 0 ≤ gI t x p ∧ gI t x p ≤ 1 := by unfold gI ind; split <;> omega
theorem gC_le (t : Bool) (x p q y s : Int) : 0 ≤ gC t x p q y s ∧ gC t x p q y s ≤ 1 := by unfold gC ind; split <;> omega

theorem clamp_cuts (A : Option Addr) (n c : Nat) (z : List Int) (lo hi : Int) (w : World) (hz : Ints w A n z) (hn : n ≤ 17592186044414) (h : lo ≤ hi) :
    Calls Try.prog 32 #[.slice A n c, .int .i64 lo, .int .i64 hi] w fun e w' => ∃ v, e = .returned v ∧ CutsV w' v lo hi n ∧ Below w.heap.size w w' := by
  refine (clamp_any A n c z lo hi w hz hn).mono ?_
  rintro _ w' ⟨v, m, rfl, h1, h2, h3, h4, hb⟩
  obtain ⟨A', c', rfl, hN, -, -⟩ := h4.form
  exact ⟨_, rfl, ⟨A', c', _, rfl, cuts_mk h h2 h3, by simp; omega, hN⟩, hb⟩
end Go.Proofs.Ytenhhkeajhkfoaa
