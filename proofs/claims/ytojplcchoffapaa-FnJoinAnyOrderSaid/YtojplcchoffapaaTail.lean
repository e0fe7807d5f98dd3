/- The last operations of a region whose order is open, as a list: for the walk's own words. Conditions: none. -/
import Derived.Test.YtojplcchoffapaaRegion
namespace Go.Proofs.Ytojplcchoffapaa

theorem wpOps_tail {P : Program} {ops : Array Oper} {Q : Exit → Act → World → Prop} {T : List Nat} {a : Act} {w : World} (m : Nat) (l : List Oper) (hl : ops.toList.drop m = l) (hT : T = List.range' m l.length) (h : wpList P ops Q l a w) : wpOps P ops Q T a w := by
  subst hT
  rw [wpOps_eq_wpList l m (fun j => by rw [← hl, List.getElem?_drop, Array.getElem?_toList])]
  exact h
end Go.Proofs.Ytojplcchoffapaa
