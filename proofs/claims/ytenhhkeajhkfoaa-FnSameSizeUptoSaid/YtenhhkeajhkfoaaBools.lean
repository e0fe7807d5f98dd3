/- Words for memory: a slice of bools that came in, read as a list. Conditions: none. -/
import Derived.Test.YtenhhkeajhkfoaaMem
namespace Go.Proofs.Ytenhhkeajhkfoaa
open Go.RowKit

/-- the slice of n bools at A reads as bs -/
def Bools (w : World) (A : Option Addr) (n : Nat) (bs : List Bool) : Prop :=
  bs.length = n ∧ (0 < n → ∃ b o, A = some ⟨b, o, none⟩ ∧ b < w.heap.size ∧ ∀ i, i < n → w.cell? ⟨b, o + i, none⟩ = some (.bool (bs.getD i false)))
theorem Bools.by {w w' : World} {A : Option Addr} {n : Nat} {bs : List Bool} (h : Bools w A n bs) (hb : Below w.heap.size w w') : Bools w' A n bs := by
  refine ⟨h.1, fun hn => ?_⟩
  obtain ⟨b, o, e, hlt, hc⟩ := h.2 hn
  exact ⟨b, o, e, by have := hb.size; omega, fun i hi => (hb.cell (p := ⟨b, o + i, none⟩) hlt).trans (hc i hi)⟩
theorem Bools.at_ {w : World} {A : Option Addr} {n : Nat} {bs : List Bool} (h : Bools w A n bs) {i : Nat} (hi : i < n) : ∃ b o, A = some ⟨b, o, none⟩ ∧ b < w.heap.size ∧ w.cell? ⟨b, o + i, none⟩ = some (.bool (bs.getD i false)) := by
  obtain ⟨b, o, e, hlt, hc⟩ := h.2 (by omega)
  exact ⟨b, o, e, hlt, hc i hi⟩
theorem Bools.out {w : World} {A : Option Addr} {n : Nat} {bs : List Bool} (h : Bools w A n bs) {i : Nat} (hi : ¬ i < n) : bs.getD i false = false := by
  have := h.1
  simp [List.getElem?_eq_none (show bs.length ≤ i by omega)]
end Go.Proofs.Ytenhhkeajhkfoaa
