/- The contract of the laws' function both. Conditions: none. -/
import Derived.Test.YtojplcchoffapaaWalk
import Derived.Laws.ResultCell
namespace Go.Proofs.Ytojplcchoffapaa
open Go.RowKit

/-- it returns the rectangle q and true -/
def RetB (q : R) (w : World) (e : Ending) (w' : World) : Prop := e = .returned (.tuple #[.agg #[.int .i64 q.x0, .int .i64 q.y0, .int .i64 q.x1, .int .i64 q.y1], .bool true]) ∧ Below w.heap.size w w'

theorem steps_one {w : World} (op e f g h : Int) : Steps (w.alloc (.cells #[.int .i64 op, .int .i64 0, .int .i64 0, .int .i64 0, .int .i64 e, .int .i64 f, .int .i64 g, .int .i64 h] 71)) (some ⟨w.heap.size, 0, none⟩) [⟨op, 0, 0, 0, ⟨e, f, g, h⟩⟩] := by
  intro _
  refine ⟨w.heap.size, 0, rfl, by simp, fun j u hu => ?_⟩
  rw [Nat.zero_add]
  exact ((At.new w 71 [.int .i64 op, .int .i64 0, .int .i64 0, .int .i64 0, .int .i64 e, .int .i64 f, .int .i64 g, .int .i64 h]).cell j).trans hu

theorem results_cell_row2 {P : Program} {fn : Func} {p u : Tmp} {ty : TypeId} (h : fn.results = #[.cell p ty, .tmp u]) (tmps : Array Value) (w : World) (g : Nat) (t : TypeId) (cs : Array Value) (fr : Nat × Nat) (d : TypeDesc)
    (hp : tmps.getD p undef = .pointer (some ⟨g, 0, none⟩)) (hg : w.heap[g]? = some (.cells cs t fr))
    (hu : P.underlying ty = some d) (hd : (match d with | .struct _ | .array _ _ => true | _ => false) = true) (hi : (P.info? ty).map (·.size) = some cs.size) :
    (results fn tmps).run P w = .ok (.tuple #[.agg cs, tmps.getD u undef]) w := by
  rw [results_cell_tmp h, hp]
  simp [asAddr, run_loadVar_row w g t ty cs fr d hg hu hd hi, Result.andThen]

/-- a script of one step -/
theorem walk_one (op a b c d e f g h : Int) (w : World) (bk : Nat) (hbk : bk = w.heap.size) :
    Calls Try.prog 43 #[.agg #[.int .i64 a, .int .i64 b, .int .i64 c, .int .i64 d], .slice (some ⟨bk, 0, none⟩) 1 1] (w.alloc (.cells #[.int .i64 op, .int .i64 0, .int .i64 0, .int .i64 0, .int .i64 e, .int .i64 f, .int .i64 g, .int .i64 h] 71))
      (RetL [stepR op 0 0 0 ⟨e, f, g, h⟩ ⟨a, b, c, d⟩] (w.alloc (.cells #[.int .i64 op, .int .i64 0, .int .i64 0, .int .i64 0, .int .i64 e, .int .i64 f, .int .i64 g, .int .i64 h] 71))) := by
  subst hbk
  have hc := walk_any a b c d (some ⟨w.heap.size, 0, none⟩) 1 [⟨op, 0, 0, 0, ⟨e, f, g, h⟩⟩] _ (steps_one (w := w) op e f g h) (by simp)
  have e1 : runsS ⟨a, b, c, d⟩ [⟨op, 0, 0, 0, ⟨e, f, g, h⟩⟩] [(⟨op, 0, 0, 0, ⟨e, f, g, h⟩⟩ : S)].length = [stepR op 0 0 0 ⟨e, f, g, h⟩ ⟨a, b, c, d⟩] := rfl
  rw [e1, List.length_singleton] at hc
  exact hc

set_option maxHeartbeats 400000 in
theorem both_any (op a b c d e f g h : Int) (w : World) :
    Calls Try.prog 25 #[.int .i64 op, .agg #[.int .i64 a, .int .i64 b, .int .i64 c, .int .i64 d], .agg #[.int .i64 e, .int .i64 f, .int .i64 g, .int .i64 h]] w (RetB (stepR op 0 0 0 ⟨e, f, g, h⟩ ⟨a, b, c, d⟩) w) := by
  obtain ⟨m, hm⟩ : ∃ m, stepR op 0 0 0 ⟨e, f, g, h⟩ ⟨a, b, c, d⟩ = m := ⟨_, rfl⟩
  rw [hm]
  have HM := Lib.hid hm
  clear hm
  go_enter Try.func25, Try.ntmps25
  go_wp2_with fail
  refine (walk_one op a b c d e f g h _ _ (by simp only [size_alloc])).mono ?_
  rintro _ w1 ⟨v, rfl, hown, hb1⟩
  rw [HM.out] at hown
  obtain ⟨A', c', rfl, hR⟩ := hown.form
  obtain ⟨g', o', rfl, _⟩ := hR.addr (by simp)
  obtain ⟨m0, m1, m2, m3⟩ := m
  obtain ⟨c0, c1, c2, c3⟩ := hR.cells (i := 0) (by simp) rfl
  simp only [Nat.zero_mul, Nat.add_zero] at c0 c1 c2 c3
  have h6 := ((At.new ((w.alloc (.cells #[.int .i64 a, .int .i64 b, .int .i64 c, .int .i64 d] 24)).alloc (.cells #[.int .i64 e, .int .i64 f, .int .i64 g, .int .i64 h] 24)) 24 [.int .i64 0, .int .i64 0, .int .i64 0, .int .i64 0]).alloc (.cells #[.int .i64 op, .int .i64 0, .int .i64 0, .int .i64 0, .int .i64 e, .int .i64 f, .int .i64 g, .int .i64 h] 71)).by hb1
  simp only [size_alloc] at h6
  have HB := Lib.hid ((four_new w _ _ _ _).trans (hb1.mono (by simp only [size_alloc]; omega)))
  obtain ⟨⟨d0, d1, d2, d3⟩, z0, z1, z2, z3⟩ := h6.four
  have H6 := Lib.hid h6
  clear h6 hb1 hown hR
  simp only [List.length_singleton]
  go_wp2
  exact bodyPost_ret (results_cell_row2 rfl _ _ (w.heap.size + 1 + 1) _ _ _ _ rfl (H6.out.set4 _ _ _ _) Try.underlying24 rfl (by kernel_rfl)) rfl ⟨rfl, below_set4 HB.out (by omega) _ _ _ _⟩
end Go.Proofs.Ytojplcchoffapaa
