/- How the arguments read: a slice of bools as a list. Conditions: none. -/
import Derived.Test.YtenhhkeajhkfoaaOpen
import Derived.Test.YtenhhkeajhkfoaaBools
import Derived.Deep.Grids
namespace Go.Proofs.Ytenhhkeajhkfoaa
open Go.ChangeShapes Go.WideShapes Go.RowKit Go.Deep
section
variable {H : Type} {enc : TypeId × Value → H}
/-- a slice of bools that came in -/
theorem open_bools {w : World} {base : Nat} {a : Option Addr} {len cap : Nat} {d : DataW H} {p : List MemPlace}
    (h : DataW.Trod enc Try.prog w base (fun _ => true) true 23 (.slice a len cap) d p) :
    ∃ bs, Bools w a len bs ∧ True ∧ len ≤ cap ∧ cap ≤ maxLen ∧ (a = none → len = 0 ∧ cap = 0) ∧ len ≤ Rows.uptoBulk d := by
  obtain ⟨fuel, hf⟩ := h
  rcases Go.Deep.open_bools Try.underlying23 Try.underlying4 (by kernel_rfl) hf with ⟨hcs, _⟩ | ⟨x, l, c, B, hcs, _, hl, hm, hx, hcell⟩
  · simp [Value.cells] at hcs
    obtain ⟨rfl, rfl, rfl⟩ := hcs
    exact ⟨[], ⟨rfl, fun h => absurd h (by omega)⟩, trivial, Nat.le_refl _, Nat.zero_le _, fun _ => ⟨rfl, rfl⟩, Nat.zero_le _⟩
  · simp [Value.cells] at hcs
    obtain ⟨rfl, rfl, rfl⟩ := hcs
    refine ⟨(List.range len).map B, ⟨by simp, fun h0 => ?_⟩, trivial, hl, hm, (fun h => by cases h), ?_⟩
    · obtain ⟨b, o, s⟩ := x
      have c0 := hcell 0 (by omega)
      have hs : s = none := by simpa [Addr.add] using World.cell?_spot c0
      subst hs
      refine ⟨b, o, rfl, lt_of_cell c0, fun i hi => ?_⟩
      have := hcell i (by omega)
      rw [add_off] at this
      rw [this]
      simp [hi]
    · simp only [Prod.mk.injEq] at hx
      rw [hx.1]
      have h1 : ∀ l : List Bool, Rows.uptoBulkAll (H := H) (l.map fun b => .lit (.bool b)) = l.length := by
        intro l
        induction l with
        | nil => rfl
        | cons y l ih => simp only [List.map_cons, Rows.uptoBulkAll, Rows.uptoBulk, List.length_cons] at ih ⊢; omega
      have h2 := h1 ((List.range len).map B)
      rw [List.map_map, List.length_map, List.length_range] at h2
      simp only [boolRow, Rows.uptoBulk]
      have e : ((fun b => (.lit (.bool b) : DataW H)) ∘ B) = fun i => .lit (.bool (B i)) := rfl
      rw [e] at h2
      omega
end
end Go.Proofs.Ytenhhkeajhkfoaa
