/- Words for memory: a slice of integers that came in, read as a list. Conditions: none. -/
import Derived.Test.YtojplcchoffapaaPlain
import Derived.WalkKit
import Derived.Laws.CopyOwn
import Derived.Laws.Rows
import Derived.Lib.Hide
namespace Go.Proofs.Ytojplcchoffapaa
open Go.RowKit

/-- the slice of n integers at A reads as zs -/
def Ints (w : World) (A : Option Addr) (n : Nat) (zs : List Int) : Prop :=
  zs.length = n ∧ (0 < n → ∃ b o, A = some ⟨b, o, none⟩ ∧ b < w.heap.size ∧ ∀ i, i < n → w.cell? ⟨b, o + i, none⟩ = some (.int .i64 (zs.getD i 0)))

theorem Ints.below {w w' : World} {A : Option Addr} {n B : Nat} {zs : List Int} (h : Ints w A n zs) (hB : w.heap.size ≤ B) (hb : Below B w w') : Ints w' A n zs := by
  refine ⟨h.1, fun hn => ?_⟩
  obtain ⟨b, o, e, hlt, hc⟩ := h.2 hn
  exact ⟨b, o, e, by have := hb.size; omega, fun i hi => (hb.cell (p := ⟨b, o + i, none⟩) (by show b < B; omega)).trans (hc i hi)⟩

theorem Ints.alloc {w : World} {A : Option Addr} {n : Nat} {zs : List Int} (h : Ints w A n zs) (o : Obj) : Ints (w.alloc o) A n zs :=
  h.below (Nat.le_refl _) ((Below.refl _ _).alloc (Nat.le_refl _) _)

def rectOf (zs : List Int) : R := ⟨zs.getD 0 0, zs.getD 1 0, zs.getD 2 0, zs.getD 3 0⟩

/-- the four cells behind the copy -/
def four (zs : List Int) : List Value := (zs.take 4).map (Value.int .i64)
theorem four_length (zs : List Int) : (four zs).length = Nat.min zs.length 4 := by simp [four]; exact Nat.min_comm _ _
theorem four_one (zs : List Int) : ∀ v ∈ four zs, v.oneCell' = true := by
  intro v hv
  simp only [four, List.mem_map] at hv
  obtain ⟨x, _, rfl⟩ := hv
  rfl
theorem four_get (zs : List Int) (j : Nat) (v : Value) (h : (four zs)[j]? = some v) : j < zs.length ∧ v = .int .i64 (zs.getD j 0) := by
  simp only [four, List.getElem?_map, Option.map_eq_some_iff] at h
  obtain ⟨x, hx, rfl⟩ := h
  have hj : j < (zs.take 4).length := (List.getElem?_eq_some_iff.1 hx).1
  have hj4 : j < 4 ∧ j < zs.length := by simp at hj; omega
  rw [List.getElem?_take_of_lt hj4.1] at hx
  exact ⟨hj4.2, by simp [hx]⟩
theorem splice_four (zs : List Int) (i : Nat) (hi : i < 4) : (splice [Value.int .i64 0, .int .i64 0, .int .i64 0, .int .i64 0] 0 (four zs))[i]? = some (.int .i64 (zs.getD i 0)) := by
  match zs, i, hi with
  | [], 0, _ => rfl
  | [], 1, _ => rfl
  | [], 2, _ => rfl
  | [], 3, _ => rfl
  | [_], 0, _ => rfl
  | [_], 1, _ => rfl
  | [_], 2, _ => rfl
  | [_], 3, _ => rfl
  | [_, _], 0, _ => rfl
  | [_, _], 1, _ => rfl
  | [_, _], 2, _ => rfl
  | [_, _], 3, _ => rfl
  | [_, _, _], 0, _ => rfl
  | [_, _, _], 1, _ => rfl
  | [_, _, _], 2, _ => rfl
  | [_, _, _], 3, _ => rfl
  | _ :: _ :: _ :: _ :: _, 0, _ => rfl
  | _ :: _ :: _ :: _ :: _, 1, _ => rfl
  | _ :: _ :: _ :: _ :: _, 2, _ => rfl
  | _ :: _ :: _ :: _ :: _, 3, _ => rfl
theorem cell_of_block {w : World} {g : Nat} {l : List Value} {t : TypeId} (h : w.heap[g]? = some (.cells l.toArray t (0, 0))) (i : Nat) : w.cell? ⟨g, i, none⟩ = l[i]? := by
  rw [cell_of_row w g i l.toArray t (0, 0) h]
  simp
theorem add_off (b o j : Nat) : (⟨b, o, none⟩ : Addr).add j = ⟨b, o + j, none⟩ := by
  unfold Addr.add
  split
  · simp_all
  · rfl

theorem size_alloc (w : World) (o : Obj) : (w.alloc o).heap.size = w.heap.size + 1 := by simp

/-- a block of four cells: what is read of it, and that it may be written -/
theorem blk4 {w : World} {g : Nat} {a b c d : Value} {t : TypeId} (h : w.heap[g]? = some (.cells #[a, b, c, d] t (0, 0))) :
    (w.cell? ⟨g, 0, none⟩ = some a ∧ w.cell? ⟨g, 1, none⟩ = some b ∧ w.cell? ⟨g, 2, none⟩ = some c ∧ w.cell? ⟨g, 3, none⟩ = some d) ∧
    (w.frozen? ⟨g, 0, none⟩ = false ∧ w.frozen? ⟨g, 1, none⟩ = false ∧ w.frozen? ⟨g, 2, none⟩ = false ∧ w.frozen? ⟨g, 3, none⟩ = false) := by
  refine ⟨⟨?_, ?_, ?_, ?_⟩, ⟨?_, ?_, ?_, ?_⟩⟩
  · exact cell_of_row w g 0 _ t (0, 0) h
  · exact cell_of_row w g 1 _ t (0, 0) h
  · exact cell_of_row w g 2 _ t (0, 0) h
  · exact cell_of_row w g 3 _ t (0, 0) h
  all_goals simp [World.frozen?, h]

theorem blk_set {w : World} {g : Nat} {cs : Array Value} {t : TypeId} (h : w.heap[g]? = some (.cells cs t (0, 0))) (i : Nat) (u : Value) :
    (w.setCell ⟨g, i, none⟩ u).heap[g]? = some (.cells (cs.setIfInBounds i u) t (0, 0)) := by
  simp [World.setCell, Array.getElem?_modify, h]
theorem blk4_set {w : World} {g : Nat} {a b c d : Value} {t : TypeId} (h : w.heap[g]? = some (.cells #[a, b, c, d] t (0, 0))) (a' b' c' d' : Value) :
    ((((w.setCell ⟨g, 0, none⟩ a').setCell ⟨g, 1, none⟩ b').setCell ⟨g, 2, none⟩ c').setCell ⟨g, 3, none⟩ d').heap[g]? = some (.cells #[a', b', c', d'] t (0, 0)) := by
  have h1 := blk_set h 0 a'
  have h2 := blk_set h1 1 b'
  have h3 := blk_set h2 2 c'
  have h4 := blk_set h3 3 d'
  simpa using h4
theorem below_set4 {w0 w : World} {B g : Nat} (hb : Below B w0 w) (hg : B ≤ g) (a' b' c' d' : Value) :
    Below B w0 ((((w.setCell ⟨g, 0, none⟩ a').setCell ⟨g, 1, none⟩ b').setCell ⟨g, 2, none⟩ c').setCell ⟨g, 3, none⟩ d') :=
  (((hb.setCell hg _).setCell hg _).setCell hg _).setCell hg _

/-- the block g holds the cells vs, and they may be written -/
def At (u : World) (g : Nat) (t : TypeId) (vs : List Value) : Prop := u.heap[g]? = some (.cells vs.toArray t (0, 0))
section
variable {u u' : World} {g B : Nat} {t : TypeId} {vs : List Value}
theorem At.lt (h : At u g t vs) : g < u.heap.size := by
  rcases Nat.lt_or_ge g u.heap.size with hlt | hge
  · exact hlt
  · unfold At at h
    rw [Array.getElem?_eq_none hge] at h
    cases h
theorem At.cell (h : At u g t vs) (i : Nat) : u.cell? ⟨g, i, none⟩ = vs[i]? := cell_of_block h i
theorem At.frozen (h : At u g t vs) (i : Nat) : u.frozen? ⟨g, i, none⟩ = false := by
  unfold At at h
  simp [World.frozen?, h]
theorem At.new (w : World) (t : TypeId) (vs : List Value) : At (w.alloc (.cells vs.toArray t)) w.heap.size t vs := heap_alloc_new w _
theorem At.new' (w : World) (t : TypeId) (vs : List Value) {g : Nat} (hg : g = w.heap.size) : At (w.alloc (.cells vs.toArray t)) g t vs := hg ▸ At.new w t vs
theorem At.drew (h : At u g t vs) : At u.drew g t vs := h
theorem At.alloc (h : At u g t vs) (o : Obj) : At (u.alloc o) g t vs := (Below.heap_alloc u o g h.lt).trans h
theorem At.below (h : At u g t vs) (hb : Below B u u') (hg : g < B) : At u' g t vs := (hb.block g hg).trans h
theorem At.by (h : At u g t vs) (hb : Below u.heap.size u u') : At u' g t vs := (hb.block g h.lt).trans h
theorem At.far (h : At u g t vs) {p : Addr} (hp : g ≠ p.block) (v : Value) : At (u.setCell p v) g t vs := (Below.heap_setCell u p v g hp).trans h
theorem At.ne {g' : Nat} {t' : TypeId} {vs' : List Value} (h : At u g t vs) (h' : At u g' t' vs') (hne : t ≠ t') : g ≠ g' := by
  rintro rfl
  unfold At at h h'
  rw [h] at h'
  injection h' with h'
  injection h' with _ ht
  exact hne ht
theorem At.set_ (h : At u g t vs) (i : Nat) (v : Value) : At (u.setCell ⟨g, i, none⟩ v) g t (vs.set i v) := by
  have := blk_set h i v
  unfold At
  rw [this]
  simp
theorem At.two {a b : Value} (h : At u g t [a, b]) : (u.cell? ⟨g, 0, none⟩ = some (a) ∧ u.cell? ⟨g, 1, none⟩ = some (b)) ∧ (u.frozen? ⟨g, 0, none⟩ = false ∧ u.frozen? ⟨g, 1, none⟩ = false) := ⟨⟨h.cell 0, h.cell 1⟩, h.frozen 0, h.frozen 1⟩
theorem At.four {a b c d : Value} (h : At u g t [a, b, c, d]) : (u.cell? ⟨g, 0, none⟩ = some (a) ∧ u.cell? ⟨g, 1, none⟩ = some (b) ∧ u.cell? ⟨g, 2, none⟩ = some (c) ∧ u.cell? ⟨g, 3, none⟩ = some (d)) ∧ (u.frozen? ⟨g, 0, none⟩ = false ∧ u.frozen? ⟨g, 1, none⟩ = false ∧ u.frozen? ⟨g, 2, none⟩ = false ∧ u.frozen? ⟨g, 3, none⟩ = false) := ⟨⟨h.cell 0, h.cell 1, h.cell 2, h.cell 3⟩, h.frozen 0, h.frozen 1, h.frozen 2, h.frozen 3⟩
theorem At.seven {a b c d e f k : Value} (h : At u g t [a, b, c, d, e, f, k]) : (u.cell? ⟨g, 0, none⟩ = some (a) ∧ u.cell? ⟨g, 1, none⟩ = some (b) ∧ u.cell? ⟨g, 2, none⟩ = some (c) ∧ u.cell? ⟨g, 3, none⟩ = some (d) ∧ u.cell? ⟨g, 4, none⟩ = some (e) ∧ u.cell? ⟨g, 5, none⟩ = some (f) ∧ u.cell? ⟨g, 6, none⟩ = some (k)) ∧ (u.frozen? ⟨g, 0, none⟩ = false ∧ u.frozen? ⟨g, 1, none⟩ = false ∧ u.frozen? ⟨g, 2, none⟩ = false ∧ u.frozen? ⟨g, 3, none⟩ = false ∧ u.frozen? ⟨g, 4, none⟩ = false ∧ u.frozen? ⟨g, 5, none⟩ = false ∧ u.frozen? ⟨g, 6, none⟩ = false) :=
  ⟨⟨h.cell 0, h.cell 1, h.cell 2, h.cell 3, h.cell 4, h.cell 5, h.cell 6⟩, h.frozen 0, h.frozen 1, h.frozen 2, h.frozen 3, h.frozen 4, h.frozen 5, h.frozen 6⟩
theorem At.eight {a b c d e f k l : Value} (h : At u g t [a, b, c, d, e, f, k, l]) : (u.cell? ⟨g, 0, none⟩ = some (a) ∧ u.cell? ⟨g, 1, none⟩ = some (b) ∧ u.cell? ⟨g, 2, none⟩ = some (c) ∧ u.cell? ⟨g, 3, none⟩ = some (d) ∧ u.cell? ⟨g, 4, none⟩ = some (e) ∧ u.cell? ⟨g, 5, none⟩ = some (f) ∧ u.cell? ⟨g, 6, none⟩ = some (k) ∧ u.cell? ⟨g, 7, none⟩ = some (l)) ∧ (u.frozen? ⟨g, 0, none⟩ = false ∧ u.frozen? ⟨g, 1, none⟩ = false ∧ u.frozen? ⟨g, 2, none⟩ = false ∧ u.frozen? ⟨g, 3, none⟩ = false ∧ u.frozen? ⟨g, 4, none⟩ = false ∧ u.frozen? ⟨g, 5, none⟩ = false ∧ u.frozen? ⟨g, 6, none⟩ = false ∧ u.frozen? ⟨g, 7, none⟩ = false) :=
  ⟨⟨h.cell 0, h.cell 1, h.cell 2, h.cell 3, h.cell 4, h.cell 5, h.cell 6, h.cell 7⟩, h.frozen 0, h.frozen 1, h.frozen 2, h.frozen 3, h.frozen 4, h.frozen 5, h.frozen 6, h.frozen 7⟩
end
theorem At.set2 {u : World} {g : Nat} {t : TypeId} {a b : Value} (h : At u g t [a, b]) (a' b' : Value) : At ((u.setCell ⟨g, 0, none⟩ a').setCell ⟨g, 1, none⟩ b') g t [a', b'] := (h.set_ 0 a').set_ 1 b'
theorem At.set4 {u : World} {g : Nat} {t : TypeId} {a b c d : Value} (h : At u g t [a, b, c, d]) (a' b' c' d' : Value) :
    At ((((u.setCell ⟨g, 0, none⟩ a').setCell ⟨g, 1, none⟩ b').setCell ⟨g, 2, none⟩ c').setCell ⟨g, 3, none⟩ d') g t [a', b', c', d'] := (((h.set_ 0 a').set_ 1 b').set_ 2 c').set_ 3 d'
theorem At.set7 {u : World} {g : Nat} {t : TypeId} {a b c d e f k : Value} (h : At u g t [a, b, c, d, e, f, k]) (a' b' c' d' e' f' k' : Value) :
    At (((((((u.setCell ⟨g, 0, none⟩ a').setCell ⟨g, 1, none⟩ b').setCell ⟨g, 2, none⟩ c').setCell ⟨g, 3, none⟩ d').setCell ⟨g, 4, none⟩ e').setCell ⟨g, 5, none⟩ f').setCell ⟨g, 6, none⟩ k') g t [a', b', c', d', e', f', k'] :=
  ((((((h.set_ 0 a').set_ 1 b').set_ 2 c').set_ 3 d').set_ 4 e').set_ 5 f').set_ 6 k'
theorem At.far4 {u : World} {g g' : Nat} {t : TypeId} {vs : List Value} (h : At u g t vs) (hne : g ≠ g') (a' b' c' d' : Value) :
    At ((((u.setCell ⟨g', 0, none⟩ a').setCell ⟨g', 1, none⟩ b').setCell ⟨g', 2, none⟩ c').setCell ⟨g', 3, none⟩ d') g t vs := (((h.far hne _).far hne _).far hne _).far hne _
theorem below_set7 {w0 w : World} {B g : Nat} (hb : Below B w0 w) (hg : B ≤ g) (a' b' c' d' e' f' k' : Value) :
    Below B w0 (((((((w.setCell ⟨g, 0, none⟩ a').setCell ⟨g, 1, none⟩ b').setCell ⟨g, 2, none⟩ c').setCell ⟨g, 3, none⟩ d').setCell ⟨g, 4, none⟩ e').setCell ⟨g, 5, none⟩ f').setCell ⟨g, 6, none⟩ k') :=
  ((((((hb.setCell hg _).setCell hg _).setCell hg _).setCell hg _).setCell hg _).setCell hg _).setCell hg _
end Go.Proofs.Ytojplcchoffapaa
