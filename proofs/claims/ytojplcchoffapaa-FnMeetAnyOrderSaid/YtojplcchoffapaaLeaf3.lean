/- The contracts of Intersect and Union. Conditions: none. -/
import Derived.Test.YtojplcchoffapaaLeaf2
import Derived.Laws.Rows
namespace Go.Proofs.Ytojplcchoffapaa
open Go.RowKit

/-- it returns the rectangle q, and leaves what was there as it was -/
def RetR (q : R) (w : World) (e : Ending) (w' : World) : Prop := e = .returned (.agg #[.int .i64 q.x0, .int .i64 q.y0, .int .i64 q.x1, .int .i64 q.y1]) ∧ Below w.heap.size w w'

theorem RetR.mk {q : R} {w w' : World} {a b c d : Int} (h : q = ⟨a, b, c, d⟩) (hb : Below w.heap.size w w') : RetR q w (.returned (.agg #[.int .i64 a, .int .i64 b, .int .i64 c, .int .i64 d])) w' := by
  subst h
  exact ⟨rfl, hb⟩

theorem heap_last3 (w : World) (A B C : Obj) : (((w.alloc A).alloc B).alloc C).heap[w.heap.size + 2]? = some C := by
  have h := heap_alloc_new ((w.alloc A).alloc B) C
  simpa using h
theorem heap_third4 (w : World) (A B C D : Obj) : ((((w.alloc A).alloc B).alloc C).alloc D).heap[w.heap.size + 2]? = some C := by
  rw [Below.heap_alloc _ _ _ (by simp)]
  exact heap_last3 w A B C
theorem heap_third5 (w : World) (A B C D E : Obj) : (((((w.alloc A).alloc B).alloc C).alloc D).alloc E).heap[w.heap.size + 2]? = some C := by
  rw [Below.heap_alloc _ _ _ (by simp)]
  exact heap_third4 w A B C D
theorem five_new (w : World) (o o' o'' p p' : Obj) : Below w.heap.size w (((((w.alloc o).alloc o').alloc o'').alloc p).alloc p') := (four_new w o o' o'' p).alloc (by simp; omega) _

theorem inter_ne {a b c d e f g h m0 m1 m2 m3 : Int} (h0 : (a < e ∧ m0 = e) ∨ (e ≤ a ∧ m0 = a)) (h1 : (b < f ∧ m1 = f) ∨ (f ≤ b ∧ m1 = b)) (h2 : (g < c ∧ m2 = g) ∨ (c ≤ g ∧ m2 = c)) (h3 : (h < d ∧ m3 = h) ∨ (d ≤ h ∧ m3 = d))
    (hE : emptyB m0 m1 m2 m3 = false) : inter ⟨a, b, c, d⟩ ⟨e, f, g, h⟩ = ⟨m0, m1, m2, m3⟩ := by
  have e0 : (if a < e then e else a) = m0 := by split <;> omega
  have e1 : (if b < f then f else b) = m1 := by split <;> omega
  have e2 : (if g < c then g else c) = m2 := by split <;> omega
  have e3 : (if h < d then h else d) = m3 := by split <;> omega
  simp only [inter, core, R.empty, e0, e1, e2, e3, hE]
  rfl
theorem inter_e {a b c d e f g h m0 m1 m2 m3 : Int} (hE : emptyB m0 m1 m2 m3 = true) (h0 : (a < e ∧ m0 = e) ∨ (e ≤ a ∧ m0 = a)) (h1 : (b < f ∧ m1 = f) ∨ (f ≤ b ∧ m1 = b)) (h2 : (g < c ∧ m2 = g) ∨ (c ≤ g ∧ m2 = c)) (h3 : (h < d ∧ m3 = h) ∨ (d ≤ h ∧ m3 = d)) :
    inter ⟨a, b, c, d⟩ ⟨e, f, g, h⟩ = ⟨0, 0, 0, 0⟩ := by
  have e0 : (if a < e then e else a) = m0 := by split <;> omega
  have e1 : (if b < f then f else b) = m1 := by split <;> omega
  have e2 : (if g < c then g else c) = m2 := by split <;> omega
  have e3 : (if h < d then h else d) = m3 := by split <;> omega
  simp only [inter, core, R.empty, e0, e1, e2, e3, hE]
  rfl
theorem union_h {a b c d e f g h m0 m1 m2 m3 : Int} (hr : emptyB a b c d = false) (hs : emptyB e f g h = false) (h0 : (e < a ∧ m0 = e) ∨ (a ≤ e ∧ m0 = a)) (h1 : (f < b ∧ m1 = f) ∨ (b ≤ f ∧ m1 = b)) (h2 : (c < g ∧ m2 = g) ∨ (g ≤ c ∧ m2 = c)) (h3 : (d < h ∧ m3 = h) ∨ (h ≤ d ∧ m3 = d)) :
    union ⟨a, b, c, d⟩ ⟨e, f, g, h⟩ = ⟨m0, m1, m2, m3⟩ := by
  have e0 : (if e < a then e else a) = m0 := by split <;> omega
  have e1 : (if f < b then f else b) = m1 := by split <;> omega
  have e2 : (if c < g then g else c) = m2 := by split <;> omega
  have e3 : (if d < h then h else d) = m3 := by split <;> omega
  simp only [union, hull, R.empty, e0, e1, e2, e3, hr, hs]
  rfl

set_option maxHeartbeats 4000000 in
theorem inter_any (a b c d e f g h : Int) (w : World) :
    Calls Try.prog 44 #[.agg #[.int .i64 a, .int .i64 b, .int .i64 c, .int .i64 d], .agg #[.int .i64 e, .int .i64 f, .int .i64 g, .int .i64 h]] w (RetR (inter ⟨a, b, c, d⟩ ⟨e, f, g, h⟩) w) := by
  obtain ⟨q, hq⟩ : ∃ q, q = inter ⟨a, b, c, d⟩ ⟨e, f, g, h⟩ := ⟨_, rfl⟩
  rw [← hq]
  have HQ := Lib.hid hq
  clear hq
  go_enter Try.func44, Try.ntmps44
  go_wp2_with (go_at_call 37; refine (empty_at _ _ _ _ _).mono ?_; rintro x w' ⟨rfl, rfl⟩)
  all_goals
    refine bodyPost_ret (results_cell_row rfl _ _ (w.heap.size + 2) _ _ _ _ rfl (heap_third4 _ _ _ _ _) Try.underlying61 rfl (by kernel_rfl)) rfl (RetR.mk (HQ.out.trans ?_) (four_new _ _ _ _ _))
    clear HQ
    first
      | exact inter_ne (by omega) (by omega) (by omega) (by omega) (by assumption)
      | exact inter_e (m0 := a) (m1 := b) (m2 := c) (m3 := d) (by assumption) (by omega) (by omega) (by omega) (by omega)
      | exact inter_e (m0 := e) (m1 := b) (m2 := c) (m3 := d) (by assumption) (by omega) (by omega) (by omega) (by omega)
      | exact inter_e (m0 := a) (m1 := f) (m2 := c) (m3 := d) (by assumption) (by omega) (by omega) (by omega) (by omega)
      | exact inter_e (m0 := e) (m1 := f) (m2 := c) (m3 := d) (by assumption) (by omega) (by omega) (by omega) (by omega)
      | exact inter_e (m0 := a) (m1 := b) (m2 := g) (m3 := d) (by assumption) (by omega) (by omega) (by omega) (by omega)
      | exact inter_e (m0 := e) (m1 := b) (m2 := g) (m3 := d) (by assumption) (by omega) (by omega) (by omega) (by omega)
      | exact inter_e (m0 := a) (m1 := f) (m2 := g) (m3 := d) (by assumption) (by omega) (by omega) (by omega) (by omega)
      | exact inter_e (m0 := e) (m1 := f) (m2 := g) (m3 := d) (by assumption) (by omega) (by omega) (by omega) (by omega)
      | exact inter_e (m0 := a) (m1 := b) (m2 := c) (m3 := h) (by assumption) (by omega) (by omega) (by omega) (by omega)
      | exact inter_e (m0 := e) (m1 := b) (m2 := c) (m3 := h) (by assumption) (by omega) (by omega) (by omega) (by omega)
      | exact inter_e (m0 := a) (m1 := f) (m2 := c) (m3 := h) (by assumption) (by omega) (by omega) (by omega) (by omega)
      | exact inter_e (m0 := e) (m1 := f) (m2 := c) (m3 := h) (by assumption) (by omega) (by omega) (by omega) (by omega)
      | exact inter_e (m0 := a) (m1 := b) (m2 := g) (m3 := h) (by assumption) (by omega) (by omega) (by omega) (by omega)
      | exact inter_e (m0 := e) (m1 := b) (m2 := g) (m3 := h) (by assumption) (by omega) (by omega) (by omega) (by omega)
      | exact inter_e (m0 := a) (m1 := f) (m2 := g) (m3 := h) (by assumption) (by omega) (by omega) (by omega) (by omega)
      | exact inter_e (m0 := e) (m1 := f) (m2 := g) (m3 := h) (by assumption) (by omega) (by omega) (by omega) (by omega)

set_option maxHeartbeats 4000000 in
theorem union_any (a b c d e f g h : Int) (w : World) :
    Calls Try.prog 41 #[.agg #[.int .i64 a, .int .i64 b, .int .i64 c, .int .i64 d], .agg #[.int .i64 e, .int .i64 f, .int .i64 g, .int .i64 h]] w (RetR (union ⟨a, b, c, d⟩ ⟨e, f, g, h⟩) w) := by
  obtain ⟨q, hq⟩ : ∃ q, q = union ⟨a, b, c, d⟩ ⟨e, f, g, h⟩ := ⟨_, rfl⟩
  rw [← hq]
  have HQ := Lib.hid hq
  clear hq
  by_cases hr : emptyB a b c d = true
  · go_enter Try.func41, Try.ntmps41
    go_wp2_with (go_at_call 37; refine (empty_at _ _ _ _ _).mono ?_; rintro x w' ⟨rfl, rfl⟩)
    refine bodyPost_ret (results_cell_row rfl _ _ (w.heap.size + 2) _ _ _ _ rfl (heap_third4 _ _ _ _ _) Try.underlying61 rfl (by kernel_rfl)) rfl (RetR.mk (HQ.out.trans ?_) (four_new _ _ _ _ _))
    simp [union, R.empty, hr]
  · have hr : emptyB a b c d = false := by simpa using hr
    by_cases hs : emptyB e f g h = true
    · go_enter Try.func41, Try.ntmps41
      go_wp2_with (go_at_call 37; refine (empty_at _ _ _ _ _).mono ?_; rintro x w' ⟨rfl, rfl⟩)
      refine bodyPost_ret (results_cell_row rfl _ _ (w.heap.size + 2) _ _ _ _ rfl (heap_third5 _ _ _ _ _ _) Try.underlying61 rfl (by kernel_rfl)) rfl (RetR.mk (HQ.out.trans ?_) (five_new _ _ _ _ _ _))
      simp [union, R.empty, hr, hs]
    · have hs : emptyB e f g h = false := by simpa using hs
      go_enter Try.func41, Try.ntmps41
      go_wp2_with (go_at_call 37; refine (empty_at _ _ _ _ _).mono ?_; rintro x w' ⟨rfl, rfl⟩)
      all_goals
        refine bodyPost_ret (results_cell_row rfl _ _ (w.heap.size + 2) _ _ _ _ rfl (heap_third5 _ _ _ _ _ _) Try.underlying61 rfl (by kernel_rfl)) rfl (RetR.mk (HQ.out.trans ?_) (five_new _ _ _ _ _ _))
        exact union_h hr hs (by omega) (by omega) (by omega) (by omega)

end Go.Proofs.Ytojplcchoffapaa
