/- Words for memory: four numbers at a place, one value at a place; a block of another type is written. Conditions: none. -/
import Derived.Test.YtojplcchoffapaaOwnS
namespace Go.Proofs.Ytojplcchoffapaa
open Go.RowKit

/-- four numbers at a place; one value at a place -/
def Four (w : World) (g o : Nat) (p q s t : Int) : Prop := g < w.heap.size ∧ w.cell? ⟨g, o, none⟩ = some (.int .i64 p) ∧ w.cell? ⟨g, o + 1, none⟩ = some (.int .i64 q) ∧ w.cell? ⟨g, o + 2, none⟩ = some (.int .i64 s) ∧ w.cell? ⟨g, o + 3, none⟩ = some (.int .i64 t)
theorem Four.by {w w' : World} {g o : Nat} {p q s t : Int} (h : Four w g o p q s t) (hb : Below w.heap.size w w') : Four w' g o p q s t :=
  ⟨Nat.lt_of_lt_of_le h.1 hb.size, (hb.cell (p := ⟨g, o, none⟩) h.1).trans h.2.1, (hb.cell (p := ⟨g, o + 1, none⟩) h.1).trans h.2.2.1, (hb.cell (p := ⟨g, o + 2, none⟩) h.1).trans h.2.2.2.1, (hb.cell (p := ⟨g, o + 3, none⟩) h.1).trans h.2.2.2.2⟩
def One (w : World) (g o : Nat) (v : Value) : Prop := g < w.heap.size ∧ w.cell? ⟨g, o, none⟩ = some v
theorem One.mk {w : World} {g o : Nat} {v : Value} (h : g < w.heap.size) (h2 : w.cell? ⟨g, o, none⟩ = some v) : One w g o v := ⟨h, h2⟩
theorem One.by {w w' : World} {g o : Nat} {v : Value} (h : One w g o v) (hb : Below w.heap.size w w') : One w' g o v :=
  ⟨Nat.lt_of_lt_of_le h.1 hb.size, (hb.cell (p := ⟨g, o, none⟩) h.1).trans h.2⟩
theorem Rects.four {w : World} {g o : Nat} {l : List R} (h : Rects w (some ⟨g, o, none⟩) l) {i : Nat} (hi : i < l.length) {p q s t : Int} (he : l[i] = ⟨p, q, s, t⟩) (hg : g < w.heap.size) : Four w g (o + i * 4) p q s t := ⟨hg, h.cells hi he⟩
/-- a cell of a block of another type is written -/
theorem ownS_set {u : World} {base g i : Nat} {v x : Value} {l : List S} {t : TypeId} {vs : List Value} (h : OwnS u base v l) (hg : At u g t vs) (ht : t ≠ 71) : OwnS (u.setCell ⟨g, i, none⟩ x) base v l := by
  refine ⟨h.1, ?_⟩
  rcases h.2 with h2 | ⟨k, cap, cur, hv, hk, hh, r⟩
  · exact .inl h2
  · have hne : k ≠ g := by
      rintro rfl
      unfold At at hg
      rw [hh] at hg
      injection hg with hg
      injection hg with _ e
      exact ht e.symm
    exact .inr ⟨k, cap, cur, hv, hk, (Below.heap_setCell _ _ _ _ hne).trans hh, r⟩
/-- a block that the slice does not lie in is written -/
theorem ownS_out {u : World} {base g i : Nat} {v x : Value} {l : List S} (h : OwnS u base v l) (hg : v.ownBlock ≠ some g) : OwnS (u.setCell ⟨g, i, none⟩ x) base v l := by
  refine ⟨h.1, ?_⟩
  rcases h.2 with h2 | ⟨k, cap, cur, rfl, hk, hh, r⟩
  · exact .inl h2
  · have hne : k ≠ g := fun e => hg (by simp [Value.ownBlock, e])
    exact .inr ⟨k, cap, cur, rfl, hk, (Below.heap_setCell _ _ _ _ hne).trans hh, r⟩
theorem ownS_new {w : World} {base g : Nat} {v : Value} {l : List S} (h : OwnS w base v l) (hg : w.heap.size ≤ g) : v.ownBlock ≠ some g := by
  intro e
  have := (World.ownsRow.lt h g e).2
  omega
theorem ownS_new2 {w u : World} {base g : Nat} {v : Value} {l : List S} (h : OwnS w base v l) (_hb : Below w.heap.size w u) (hg : w.heap.size ≤ g) : v.ownBlock ≠ some g := ownS_new h hg
theorem At.steps {u : World} {g : Nat} {s : S} (h : At u g 71 (sflat1 s)) : Steps u (some ⟨g, 0, none⟩) [s] := by
  intro _
  refine ⟨g, 0, rfl, h.lt, fun j v hv => ?_⟩
  rw [Nat.zero_add]
  exact (h.cell j).trans (by simpa [sflat] using hv)
end Go.Proofs.Ytojplcchoffapaa
