/- The contract of Walk. Conditions: at most 2097152 steps. -/
import Derived.Test.YtojplcchoffapaaSteps
namespace Go.Proofs.Ytojplcchoffapaa
open Go.RowKit

set_option maxHeartbeats 4000000 in
theorem walk_any (a b c d : Int) (A : Option Addr) (cp : Nat) (l : List S) (w : World) (hz : Steps w A l) (hn : l.length ≤ 2097152) :
    Calls Try.prog 43 #[.agg #[.int .i64 a, .int .i64 b, .int .i64 c, .int .i64 d], .slice A l.length cp] w (RetL (runsS ⟨a, b, c, d⟩ l l.length) w) := by
  have HZ := Lib.hid hz
  clear hz
  go_enter Try.func43, Try.ntmps43
  go_wp2_with fail
  refine (rectangle_any _ _ _ _ _).mono ?_
  rintro _ w1 ⟨rfl, hb1⟩
  have HB1 := Lib.hid (((Below.refl w.heap.size w).alloc (Nat.le_refl _) (.cells #[.int .i64 a, .int .i64 b, .int .i64 c, .int .i64 d] 24)).trans (hb1.mono (by simp)))
  clear hb1
  go_wp2
  go_loopw [6, 14] (fun v i wr => ∃ k : Nat, k ≤ l.length ∧ i = .int .i64 k ∧ Own wr w.heap.size v (runsS ⟨a, b, c, d⟩ l k) ∧ At wr (w1.heap.size + 1) 61 [.int .i64 (runS ⟨a, b, c, d⟩ (l.take k)).x0, .int .i64 (runS ⟨a, b, c, d⟩ (l.take k)).y0, .int .i64 (runS ⟨a, b, c, d⟩ (l.take k)).x1, .int .i64 (runS ⟨a, b, c, d⟩ (l.take k)).y1] ∧ Below w.heap.size w wr) (fun _ i _ => l.length - (intOf i).toNat)
  case atStart =>
    refine ⟨0, Nat.zero_le _, rfl, ((own_empty w1).mono HB1.out.size).alloc _, ?_, (HB1.out.alloc HB1.out.size _).alloc (by rw [size_alloc]; have := HB1.out.size; omega) _⟩
    exact At.new' _ _ _ (by rw [size_alloc])
  case round =>
    obtain ⟨k, hk, rfl, hown, hat, hbel⟩ := hrel
    have HO := Lib.hid hown
    have HB := Lib.hid hbel
    clear hown hbel
    by_cases hlt : k < l.length
    · obtain ⟨g, o, rfl, hg, c0, c1, c2, c3, c4, c5, c6, c7⟩ := Steps.at_ (HZ.out.by HB.out) hlt
      have hst := runS_step ⟨a, b, c, d⟩ l k hlt
      generalize hr : l[k] = s at c0 c1 c2 c3 c4 c5 c6 c7 hst
      generalize hq : runS ⟨a, b, c, d⟩ (l.take k) = q at hat hst
      clear hr hg hq
      obtain ⟨op, px, py, n, r⟩ := s
      obtain ⟨e, f, g', h⟩ := r
      obtain ⟨q0, q1, q2, q3⟩ := q
      dsimp only at c0 c1 c2 c3 c4 c5 c6 c7 hat
      have HST := Lib.hid hst
      obtain ⟨d0, d1, d2, d3⟩ := hat.four.1
      have hlt1 := hat.lt
      have HA := Lib.hid hat
      clear hst hat
      go_wp2_with fail
      refine (stepped_any _ _ _ _ _ _ _ _ _ _ _ _ _).mono ?_
      rintro _ w2 ⟨rfl, hb2⟩
      have hb2' := ((Below.refl wr.heap.size wr).alloc (Nat.le_refl _) (.cells #[.int .i64 op, .int .i64 px, .int .i64 py, .int .i64 n, .int .i64 e, .int .i64 f, .int .i64 g', .int .i64 h] 71)).trans (hb2.mono (by simp))
      have hO2 := HO.out.by hb2'
      have h52 := HA.out.by hb2'
      have hB2 := HB.out.trans (hb2'.mono HB.out.size)
      have hst : stepR op px py n ⟨e, f, g', h⟩ ⟨q0, q1, q2, q3⟩ = runS ⟨a, b, c, d⟩ (l.take (k + 1)) := HST.out.symm
      rw [hst]
      clear hst HST c0 c1 c2 c3 c4 c5 c6 c7 d0 d1 d2 d3 hlt1 HA hb2 hb2'
      obtain ⟨m, hm⟩ : ∃ m, runS ⟨a, b, c, d⟩ (l.take (k + 1)) = m := ⟨_, rfl⟩
      rw [hm]
      have HM := Lib.hid hm
      have hl5 : w.heap.size ≤ w1.heap.size + 1 := by have := HB1.out.size; omega
      obtain ⟨⟨d0, d1, d2, d3⟩, z0, z1, z2, z3⟩ := h52.four
      have hO3 := own_set4 hO2 h52 (by decide) (.int .i64 m.x0) (.int .i64 m.y0) (.int .i64 m.x1) (.int .i64 m.y1)
      have h53 := h52.set4 (.int .i64 m.x0) (.int .i64 m.y0) (.int .i64 m.x1) (.int .i64 m.y1)
      have hB3 := below_set4 hB2 hl5 (.int .i64 m.x0) (.int .i64 m.y0) (.int .i64 m.x1) (.int .i64 m.y1)
      obtain ⟨e0, e1, e2, e3⟩ := h53.four.1
      have HO3 := Lib.hid hO3
      have H53 := Lib.hid h53
      have HB3 := Lib.hid hB3
      clear hm hO2 h52 hB2 hO3 h53 hB3 hl5
      go_wp2_with fail
      refine (rect_any _ _ _ _ _).mono ?_
      rintro _ w3 ⟨rfl, hb3⟩
      have HO4 := Lib.hid (HO3.out.by hb3)
      have H54 := Lib.hid (H53.out.by hb3)
      have HB4 := Lib.hid (HB3.out.trans (hb3.mono HB3.out.size))
      clear hb3 d0 d1 d2 d3 z0 z1 z2 z3 e0 e1 e2 e3 HO3 H53 HB3
      go_wp2_with (at_builtin; refine append_rect rfl (.tmp 21) (.tmp 24) rfl w3 w.heap.size _ _ m rfl HO4.out rfl (by rw [runsS_length]; omega) HB4.out.size ?_; intro v' w4 hown4 hb4 hat4)
      go_roundw
      case rel =>
        refine ⟨k + 1, by omega, by go_num, ?_, ?_, HB4.out.trans hb4⟩
        · rw [runsS_succ, HM.out]
          exact hown4
        · rw [HM.out]
          exact hat4 _ _ _ (by decide) H54.out
      case measure => simp [intOf]; omega
    · obtain rfl : k = l.length := by omega
      clear hat
      go_wp2
      go_ret
      exact ⟨_, rfl, HO.out, HB.out⟩
end Go.Proofs.Ytojplcchoffapaa
