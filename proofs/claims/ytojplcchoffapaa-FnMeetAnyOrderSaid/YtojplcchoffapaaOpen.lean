/- How the arguments read: a slice of integers as a list of numbers, a slice of such slices as a list of lists; and what the bound on bulk gives. Conditions: none. -/
import Derived.Test.YtojplcchoffapaaRows
import Derived.Test.YtojplcchoffapaaMem
import Derived.ProofKit
import Derived.Deep.Matrix
namespace Go.Proofs.Ytojplcchoffapaa
open Go.ChangeShapes Go.WideShapes Go.RowKit Go.Deep

/-- all numbers are of type int -/
def Fits (zs : List Int) : Prop := ∀ n ∈ zs, -9223372036854775808 ≤ n ∧ n ≤ 9223372036854775807
theorem fits_wf {n : Int} (h : (Lit.int .i64 n).wf = true) : -9223372036854775808 ≤ n ∧ n ≤ 9223372036854775807 := by
  simpa [Lit.wf, IntKind.min, IntKind.max, IntKind.signed, IntKind.bits] using h

theorem lt_of_cell {w : World} {p : Addr} {v : Value} (h : w.cell? p = some v) : p.block < w.heap.size := by
  rcases Nat.lt_or_ge p.block w.heap.size with hlt | hge
  · exact hlt
  · have : w.heap[p.block]? = none := Array.getElem?_eq_none hge
    simp [World.cell?, this] at h

theorem ints_of {w : World} {x : Addr} {len : Nat} {zs : List Int} (hl : len ≤ zs.length) (hc : ∀ i, i < zs.length → w.cell? (x.add i) = some (.int .i64 (zs.getD i 0))) : Ints w (some x) len (zs.take len) := by
  refine ⟨by simp; omega, fun h0 => ?_⟩
  obtain ⟨b, o, s⟩ := x
  have c0 := hc 0 (by omega)
  have hs : s = none := by simpa [Addr.add] using World.cell?_spot c0
  subst hs
  refine ⟨b, o, rfl, lt_of_cell c0, fun i hi => ?_⟩
  have := hc i (by omega)
  rw [add_off] at this
  rw [this]
  simp [List.getElem?_take_of_lt hi]

section
variable {H : Type} {enc : TypeId × Value → H}
/-- a slice of integers that came in -/
theorem open_row {w : World} {base : Nat} {a : Option Addr} {len cap : Nat} {d : DataW H} {p : List MemPlace}
    (h : DataW.Trod enc Try.prog w base (fun _ => true) true 22 (.slice a len cap) d p) :
    ∃ zs, Ints w a len zs ∧ Fits zs ∧ len ≤ cap ∧ cap ≤ maxLen ∧ (a = none → len = 0 ∧ cap = 0) ∧ len ≤ Rows.uptoBulk d := by
  obtain ⟨fuel, hf⟩ := h
  rcases open_ints Try.underlying22 Try.underlying3 (by kernel_rfl) hf with ⟨hcs, _⟩ | ⟨x, l, c, zs, hcs, _, hl, hm, hz, hx, hcell, hwz⟩
  · simp [Value.cells] at hcs
    obtain ⟨rfl, rfl, rfl⟩ := hcs
    exact ⟨[], ⟨rfl, fun h => absurd h (by omega)⟩, (fun n hn => by cases hn), Nat.le_refl _, Nat.zero_le _, fun _ => ⟨rfl, rfl⟩, Nat.zero_le _⟩
  · simp [Value.cells] at hcs
    obtain ⟨rfl, rfl, rfl⟩ := hcs
    have hz : zs.length = cap := by simpa using hz
    refine ⟨zs.take len, ints_of (by omega) hcell, fun n hn => fits_wf (hwz n (List.mem_of_mem_take hn)), hl, hm, (fun h => by cases h), ?_⟩
    simp only [Prod.mk.injEq] at hx
    rw [hx.1]
    have h1 : ∀ l : List Int, Rows.uptoBulkAll (lits (H := H) .i64 l) = l.length := by
      intro l
      induction l with
      | nil => rfl
      | cons y l ih => simp only [lits, List.map_cons, Rows.uptoBulkAll, Rows.uptoBulk, List.length_cons] at ih ⊢; omega
    simp only [Rows.uptoBulk, h1]
    simp
    omega
end
end Go.Proofs.Ytojplcchoffapaa
