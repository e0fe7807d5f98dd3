/- How the arguments read: a slice of slices of integers as a list of lists; and what the bound on bulk gives. Conditions: none. -/
import Derived.Test.YtojplcchoffapaaOpen
import Derived.Test.YtojplcchoffapaaLists
namespace Go.Proofs.Ytojplcchoffapaa
open Go.ChangeShapes Go.WideShapes Go.RowKit Go.Deep

theorem bulk_pos {H : Type} (d : DataW H) : 1 ≤ Rows.uptoBulk d := by
  cases d with
  | lit l => cases l <;> simp [Rows.uptoBulk]
  | nil => simp [Rows.uptoBulk]
  | ptr d => simp [Rows.uptoBulk]
  | slice elems spare => simp [Rows.uptoBulk]
  | agg parts => simp [Rows.uptoBulk]
  | iface t d => simp [Rows.uptoBulk]
  | map entries => simp [Rows.uptoBulk]
  | held h => simp [Rows.uptoBulk]
theorem bulk_length {H : Type} (l : List (DataW H)) : l.length ≤ Rows.uptoBulkAll l := by
  induction l with
  | nil => simp
  | cons x r ih => have := bulk_pos x; simp only [Rows.uptoBulkAll, List.length_cons]; omega

section
variable {H : Type} {enc : TypeId × Value → H}
/-- a slice of slices of integers that came in -/
theorem open_rows {w : World} {base : Nat} {a : Option Addr} {len cap : Nat} {d : DataW H} {p : List MemPlace}
    (h : DataW.Trod enc Try.prog w base (fun _ => true) true 41 (.slice a len cap) d p) :
    ∃ zss, RowsAt w a len zss ∧ (∀ zs ∈ zss, Fits zs) ∧ len ≤ cap ∧ cap ≤ maxLen ∧ (a = none → len = 0 ∧ cap = 0) ∧ len ≤ Rows.uptoBulk d := by
  obtain ⟨fuel, hf⟩ := h
  rcases open_int_rows Try.underlying41 Try.underlying22 Try.underlying3 (by kernel_rfl) (by kernel_rfl) hf with ⟨hcs, _⟩ | ⟨x, l, c, A, L, C, Z, hcs, _, hl, hm, hx, hr⟩
  · simp [Value.cells] at hcs
    obtain ⟨rfl, rfl, rfl⟩ := hcs
    exact ⟨[], ⟨rfl, fun h => absurd h (by omega)⟩, (fun n hn => by cases hn), Nat.le_refl _, Nat.zero_le _, fun _ => ⟨rfl, rfl⟩, Nat.zero_le _⟩
  · simp [Value.cells] at hcs
    obtain ⟨rfl, rfl, rfl⟩ := hcs
    refine ⟨(List.range len).map fun r => (Z r).take (L r), ⟨by simp, fun h0 => ?_⟩, ?_, hl, hm, (fun h => by cases h), ?_⟩
    · obtain ⟨b, o, s⟩ := x
      have c0 := (hr 0 (by omega)).1
      have hs : s = none := by simpa [Addr.add] using World.cell?_spot c0
      subst hs
      refine ⟨b, o, rfl, lt_of_cell c0, fun i hi => ?_⟩
      obtain ⟨h1, h2, h3, h4, h5, h6, h7⟩ := hr i (by omega)
      rw [add_off] at h1
      refine ⟨A i, L i, C i, h1, ?_⟩
      have e : ((List.range len).map fun r => (Z r).take (L r)).getD i [] = (Z i).take (L i) := by simp [hi]
      rw [e]
      cases hA : A i with
      | none =>
        have hC := h6 hA
        have hL : L i = 0 := by omega
        rw [hL]
        exact ⟨by simp, fun h => absurd h (by omega)⟩
      | some a' => exact ints_of (by omega) (fun j hj => (h7 a' hA).2 j (by omega))
    · intro zs hzs n hn
      rw [List.mem_map] at hzs
      obtain ⟨r, hr', rfl⟩ := hzs
      have hlt := List.mem_range.1 hr'
      exact fits_wf ((hr r (by omega)).2.2.2.2.1 n (List.mem_of_mem_take hn))
    · simp only [Prod.mk.injEq] at hx
      rw [hx.1]
      simp only [Rows.uptoBulk]
      have h1 := bulk_length ((List.range len).map fun r => intRow (H := H) .i64 (A r) (L r) (Z r))
      simp only [List.length_map, List.length_range] at h1
      omega
end
end Go.Proofs.Ytojplcchoffapaa
