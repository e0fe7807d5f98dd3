/- A list of blocks that are held while a call goes on. Conditions: none. -/
import Derived.Test.YtojplcchoffapaaMem
namespace Go.Proofs.Ytojplcchoffapaa
open Go.RowKit

/-- the listed blocks are held, and what was there when the call began is as it was -/
def Ats (l : List (Nat × TypeId × List Value)) (w u : World) : Prop := (∀ x ∈ l, At u x.1 x.2.1 x.2.2) ∧ Below w.heap.size w u
theorem Ats.by {l : List (Nat × TypeId × List Value)} {w u u' : World} (h : Ats l w u) (hb : Below u.heap.size u u') : Ats l w u' := ⟨fun x hx => (h.1 x hx).by hb, h.2.trans (hb.mono h.2.size)⟩
theorem Ats.nth {l : List (Nat × TypeId × List Value)} {w u : World} (h : Ats l w u) (i : Nat) {g : Nat} {t : TypeId} {vs : List Value} (hi : l[i]? = some (g, t, vs)) : At u g t vs := h.1 (g, t, vs) (List.mem_of_getElem? hi)
theorem Ats.drew {l : List (Nat × TypeId × List Value)} {w u : World} (h : Ats l w u) : Ats l w u.drew := ⟨fun x hx => (h.1 x hx).drew, h.2.drew⟩
theorem Ats.alloc {l : List (Nat × TypeId × List Value)} {w u : World} (h : Ats l w u) (o : Obj) : Ats l w (u.alloc o) := h.by ((Below.refl _ _).alloc (Nat.le_refl _) _)
theorem Ats.nil {w u : World} (hb : Below w.heap.size w u) : Ats [] w u := ⟨(fun _ h => by cases h), hb⟩
theorem Ats.cons {l : List (Nat × TypeId × List Value)} {w u : World} {g : Nat} {t : TypeId} {vs : List Value} (h : At u g t vs) (hs : Ats l w u) : Ats ((g, t, vs) :: l) w u :=
  ⟨fun x hx => by
    cases List.mem_cons.1 hx with
    | inl e => subst e; exact h
    | inr e => exact hs.1 x e, hs.2⟩
theorem Ats.tail {x : Nat × TypeId × List Value} {l : List (Nat × TypeId × List Value)} {w u : World} (h : Ats (x :: l) w u) : Ats l w u := ⟨fun y hy => h.1 y (List.mem_cons_of_mem _ hy), h.2⟩
end Go.Proofs.Ytojplcchoffapaa
