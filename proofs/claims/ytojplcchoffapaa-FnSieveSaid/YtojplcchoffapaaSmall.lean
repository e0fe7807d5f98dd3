/- The contract of spec.Small. Conditions: the bound lies from 0 to 2^62; at most 1048576 numbers. -/
import Derived.Test.YtojplcchoffapaaNums
import Derived.Test.YtojplcchoffapaaOwnS
namespace Go.Proofs.Ytojplcchoffapaa
open Go.RowKit

def okB (m n : Int) : Bool := decide (-m ≤ n) && decide (n ≤ m)
def allB (m : Int) (zs : List Int) : Bool := zs.all (okB m)
theorem all_take_succ {α : Type} (p : α → Bool) (l : List α) (k : Nat) (h : k < l.length) : (l.take (k + 1)).all p = ((l.take k).all p && p l[k]) := by
  rw [List.take_succ_eq_append_getElem h, List.all_append]
  simp
theorem all_false_of {α : Type} (p : α → Bool) (l : List α) (k : Nat) (h : k < l.length) (hp : p l[k] = false) : l.all p = false := by
  rw [List.all_eq_false]
  exact ⟨l[k], List.getElem_mem h, by simp [hp]⟩
theorem okB_iff (m n : Int) : okB m n = true ↔ -m ≤ n ∧ n ≤ m := by simp [okB]

set_option maxHeartbeats 1000000 in
theorem Small_any (m : Int) (A : Option Addr) (n c : Nat) (zs : List Int) (w : World) (hz : Ints w A n zs) (hm : 0 ≤ m) (hm2 : m < 4611686018427387904) (hn : n ≤ 1048576) :
    Calls Try.prog 20 #[.int .i64 m, .slice A n c] w fun e w' => e = .returned (.bool (allB m zs)) ∧ Below w.heap.size w w' := by
  have HZ := Lib.hid hz
  clear hz
  have hneg : IntKind.i64.wrap (-m) = -m := IntWalk.i64_in _ (by omega)
  go_enter Try.func20, Try.ntmps20
  go_wp2
  go_loopw [9] (fun i wr => ∃ k : Nat, k ≤ n ∧ i = .int .i64 k ∧ (zs.take k).all (okB m) = true ∧ Below w.heap.size w wr) (fun i _ => n - (intOf i).toNat)
  case atStart => exact ⟨0, Nat.zero_le _, rfl, by simp, Below.refl _ _⟩
  case round =>
    obtain ⟨k, hk, rfl, hall, hbel⟩ := hrel
    by_cases hlt : k < n
    · obtain ⟨g, o, rfl, _, hc⟩ := (HZ.out.below (Nat.le_refl _) hbel).at_ hlt
      have hlen := HZ.out.1
      have hs := all_take_succ (okB m) zs k (by omega)
      have hfa := all_false_of (okB m) zs k (by omega)
      have hget : zs.getD k 0 = zs[k]'(by omega) := by simp [hlen, hlt]
      rw [hget] at hc
      generalize zs[k]'(by omega) = v at hs hfa hc
      rw [hall, Bool.true_and] at hs
      have HB := Lib.hid hbel
      have HS := Lib.hid hs
      have HFA := Lib.hid hfa
      clear hbel hs hfa hall hlen hget
      by_cases h1 : v < -m
      · go_wp2
        go_ret
        exact ⟨by rw [show allB m zs = false from HFA.out (by simp [okB]; omega)]; rfl, HB.out⟩
      by_cases h2 : m < v
      · go_wp2
        go_ret
        exact ⟨by rw [show allB m zs = false from HFA.out (by simp [okB]; omega)]; rfl, HB.out⟩
      · go_wp2
        go_roundw
        case rel => exact ⟨k + 1, by omega, by go_num, by rw [HS.out, okB_iff]; omega, HB.out⟩
        case measure => simp [intOf]; omega
    · obtain rfl : k = n := by omega
      have HB := Lib.hid hbel
      have HAL := Lib.hid hall
      clear hbel hall
      go_wp2
      go_ret
      refine ⟨?_, HB.out⟩
      have h := HAL.out
      rw [List.take_of_length_le (by have := HZ.out.1; omega)] at h
      rw [show allB m zs = true from h]
      rfl

theorem At.ints {w : World} {g : Nat} {zs : List Int} (h : At w g 3 (zs.map (Value.int .i64))) : Ints w (some ⟨g, 0, none⟩) zs.length zs := by
  refine ⟨rfl, fun _ => ⟨g, 0, rfl, h.lt, fun i hi => ?_⟩⟩
  rw [Nat.zero_add, h.cell i]
  simp [hi]

end Go.Proofs.Ytojplcchoffapaa
