/- How long a slice of integers that came in is: each slice takes at most 2^47 - 4096 bytes. Conditions: none. -/
import Derived.Test.YtojplcchoffapaaOpen2
import Derived.SizedLaws
namespace Go.Proofs.Ytojplcchoffapaa
open Go.ChangeShapes Go.WideShapes Go.RowKit Go.Deep

theorem open_row_len {H : Type} {enc : TypeId × Value → H} {w : World} {base : Nat} {a : Option Addr} {len cap : Nat} {d : DataW H} {p : List MemPlace}
    (h : DataW.Trod enc Try.prog w base (fun _ => true) true 22 (.slice a len cap) d p) : len = 0 ∨ ∃ elems spare, d = .slice elems spare ∧ elems.length = len := by
  obtain ⟨fuel, hf⟩ := h
  rcases open_ints Try.underlying22 Try.underlying3 (by kernel_rfl) hf with ⟨hcs, _⟩ | ⟨x, l, c, zs, hcs, _, hl, hm, hz, hx, hcell, hwz⟩
  · simp [Value.cells] at hcs
    obtain ⟨rfl, rfl, rfl⟩ := hcs
    exact .inl rfl
  · simp [Value.cells] at hcs
    obtain ⟨rfl, rfl, rfl⟩ := hcs
    have hz : zs.length = cap := by simpa using hz
    simp only [Prod.mk.injEq] at hx
    exact .inr ⟨_, _, hx.1, by simp [lits]; omega⟩
theorem row_len {H : Type} {enc : TypeId × Value → H} {w : World} {base : Nat} {a : Option Addr} {len cap : Nat} {d : DataW H} {p : List MemPlace} {ts : List TypeId} {ds : List (DataW H)} {j : Nat}
    (h : DataW.Trod enc Try.prog w base (fun _ => true) true 22 (.slice a len cap) d p) (hsz : (DataW.weightsEach Try.prog ts ds).all (· ≤ reachBytes) = true) (ht : ts[j]? = some 22) (hd : ds[j]? = some d) : len ≤ 17592186044414 := by
  rcases open_row_len h with h0 | ⟨elems, spare, rfl, he⟩
  · omega
  · have h1 := sized_slice hsz ht hd Try.underlying22
    rw [show Try.prog.bytesOf 3 = 8 by kernel_rfl, show reachBytes = 140737488351232 from rfl] at h1
    omega
theorem open_rows_len {H : Type} {enc : TypeId × Value → H} {w : World} {base : Nat} {a : Option Addr} {len cap : Nat} {d : DataW H} {p : List MemPlace}
    (h : DataW.Trod enc Try.prog w base (fun _ => true) true 41 (.slice a len cap) d p) : len = 0 ∨ ∃ elems spare, d = .slice elems spare ∧ elems.length = len := by
  obtain ⟨fuel, hf⟩ := h
  rcases open_int_rows Try.underlying41 Try.underlying22 Try.underlying3 (by kernel_rfl) (by kernel_rfl) hf with ⟨hcs, _⟩ | ⟨x, l, c, A, L, C, Z, hcs, _, hl, hm, hx, hr⟩
  · simp [Value.cells] at hcs
    obtain ⟨rfl, rfl, rfl⟩ := hcs
    exact .inl rfl
  · simp [Value.cells] at hcs
    obtain ⟨rfl, rfl, rfl⟩ := hcs
    simp only [Prod.mk.injEq] at hx
    exact .inr ⟨_, _, hx.1, by simp⟩
theorem rows_len {H : Type} {enc : TypeId × Value → H} {w : World} {base : Nat} {a : Option Addr} {len cap : Nat} {d : DataW H} {p : List MemPlace} {ts : List TypeId} {ds : List (DataW H)} {j : Nat}
    (h : DataW.Trod enc Try.prog w base (fun _ => true) true 41 (.slice a len cap) d p) (hsz : (DataW.weightsEach Try.prog ts ds).all (· ≤ reachBytes) = true) (ht : ts[j]? = some 41) (hd : ds[j]? = some d) : len ≤ 5864062014634 := by
  rcases open_rows_len h with h0 | ⟨elems, spare, rfl, he⟩
  · omega
  · have h1 := sized_slice hsz ht hd Try.underlying41
    rw [show Try.prog.bytesOf 22 = 24 by kernel_rfl, show reachBytes = 140737488351232 from rfl] at h1
    omega
end Go.Proofs.Ytojplcchoffapaa
