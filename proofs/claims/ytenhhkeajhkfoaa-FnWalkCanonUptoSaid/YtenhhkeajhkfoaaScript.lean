/- The contract of the laws' function script: a step for each kind. Conditions: at most 1048576 kinds. -/
import Derived.Test.YtenhhkeajhkfoaaOwnS
import Derived.Deep.DeepCutAuto
namespace Go.Proofs.Ytenhhkeajhkfoaa
open Go.RowKit

set_option maxHeartbeats 4000000 in
theorem script_any (A0 A1 A2 A3 A4 : Option Addr) (n0 c0 n1 c1 n2 c2 n3 c3 n4 c4 : Nat) (z0 z1 z2 z3 : List Int) (z4 : List (List Int)) (w : World)
    (h0 : Ints w A0 n0 z0) (h1 : Ints w A1 n1 z1) (h2 : Ints w A2 n2 z2) (h3 : Ints w A3 n3 z3) (h4 : RowsAt w A4 n4 z4) (hn : n0 ≤ 1048576) :
    Calls Try.prog 16 #[.slice A0 n0 c0, .slice A1 n1 c1, .slice A2 n2 c2, .slice A3 n3 c3, .slice A4 n4 c4] w (RetS (scriptS z0 z1 z2 z3 z4 n0) w) := by
  have H0 := Lib.hid h0
  have H1 := Lib.hid h1
  have H2 := Lib.hid h2
  have H3 := Lib.hid h3
  have H4 := Lib.hid h4
  clear h0 h1 h2 h3 h4
  go_enter Try.func16, Try.ntmps16
  go_wp2
  go_loopw [11, 18] (fun v i wr => ∃ k : Nat, k ≤ n0 ∧ i = .int .i64 k ∧ OwnS wr w.heap.size v (scriptS z0 z1 z2 z3 z4 k) ∧ Below w.heap.size w wr) (fun _ i _ => n0 - (intOf i).toNat)
  case atStart => exact ⟨0, Nat.zero_le _, rfl, ownS_empty w, (Below.refl _ _).alloc (Nat.le_refl _) _⟩
  case round =>
    obtain ⟨k, hk, rfl, hown, hbel⟩ := hrel
    have HO := Lib.hid hown
    have HB := Lib.hid hbel
    clear hown hbel
    by_cases hlt : k < n0
    · obtain ⟨g0, o0, rfl, _, hcell⟩ := (H0.out.below (Nat.le_refl _) HB.out).at_ hlt
      obtain ⟨op, hop⟩ : ∃ q, z0.getD k 0 = q := ⟨_, rfl⟩
      obtain ⟨px, hpx⟩ : ∃ q, z1.getD k 0 = q := ⟨_, rfl⟩
      obtain ⟨py, hpy⟩ : ∃ q, z2.getD k 0 = q := ⟨_, rfl⟩
      obtain ⟨n, hnn⟩ : ∃ q, z3.getD k 0 = q := ⟨_, rfl⟩
      obtain ⟨⟨a, b, c, d⟩, hr⟩ : ∃ q, rectOf (z4.getD k []) = q := ⟨_, rfl⟩
      rw [hop] at hcell
      have HS := Lib.hid (show stepAt z0 z1 z2 z3 z4 k = ⟨op, px, py, n, ⟨a, b, c, d⟩⟩ by unfold stepAt; rw [hop, hpx, hpy, hnn, hr])
      have HPX := Lib.hid hpx
      have HPY := Lib.hid hpy
      have HNN := Lib.hid hnn
      have HR := Lib.hid hr
      clear hop hpx hpy hnn hr
      go_upto_if 28 with fail
      clear hcell
      go_cut [] (fun wx => At wx wr.heap.size 31 [.int .i64 op, .int .i64 px, .int .i64 0, .int .i64 0, .int .i64 0, .int .i64 0, .int .i64 0, .int .i64 0] ∧ Below wr.heap.size wr wx)
      case first =>
        by_cases hlt1 : k < n1
        · obtain ⟨g1, o1, rfl, hg1, hc⟩ := (H1.out.below (Nat.le_refl _) HB.out).at_ hlt1
          rw [HPX.out] at hc
          go_wp2
          go_meet
          exact ⟨At.new wr 31 [.int .i64 op, .int .i64 px, .int .i64 0, .int .i64 0, .int .i64 0, .int .i64 0, .int .i64 0, .int .i64 0], (Below.refl _ _).alloc (Nat.le_refl _) _⟩
        · have e := H1.out.out hlt1
          rw [HPX.out] at e
          subst e
          go_wp2
          go_meet
          exact ⟨At.new wr 31 [.int .i64 op, .int .i64 0, .int .i64 0, .int .i64 0, .int .i64 0, .int .i64 0, .int .i64 0, .int .i64 0], (Below.refl _ _).alloc (Nat.le_refl _) _⟩
      case rest =>
        obtain ⟨h14, hb14⟩ := hcut
        have H14 := Lib.hid (And.intro h14 hb14)
        obtain ⟨⟨c0, c1, c2, c3, c4, c5, c6, c7⟩, f0, f1, f2, f3, f4, f5, f6, f7⟩ := h14.eight
        clear h14 hb14
        go_upto_if 38 with fail
        go_cut [] (fun wx => At wx wr.heap.size 31 [.int .i64 op, .int .i64 px, .int .i64 py, .int .i64 0, .int .i64 0, .int .i64 0, .int .i64 0, .int .i64 0] ∧ Below wr.heap.size wr wx)
        case first =>
          by_cases hlt1 : k < n2
          · obtain ⟨g1, o1, rfl, hg1, hc⟩ := (H2.out.below (Nat.le_refl _) (HB.out.trans (H14.out.2.mono HB.out.size))).at_ hlt1
            rw [HPY.out] at hc
            go_wp2
            go_meet
            exact ⟨H14.out.1.set_ 2 (.int .i64 py), H14.out.2.setCell (Nat.le_refl _) _⟩
          · have e := H2.out.out hlt1
            rw [HPY.out] at e
            subst e
            go_wp2
            go_meet
            exact H14.out
        case rest =>
          obtain ⟨h14, hb14⟩ := hcut
          have H14 := Lib.hid (And.intro h14 hb14)
          obtain ⟨⟨c0, c1, c2, c3, c4, c5, c6, c7⟩, f0, f1, f2, f3, f4, f5, f6, f7⟩ := h14.eight
          clear h14 hb14
          go_upto_if 48 with fail
          go_cut [] (fun wx => At wx wr.heap.size 31 [.int .i64 op, .int .i64 px, .int .i64 py, .int .i64 n, .int .i64 0, .int .i64 0, .int .i64 0, .int .i64 0] ∧ Below wr.heap.size wr wx)
          case first =>
            by_cases hlt1 : k < n3
            · obtain ⟨g1, o1, rfl, hg1, hc⟩ := (H3.out.below (Nat.le_refl _) (HB.out.trans (H14.out.2.mono HB.out.size))).at_ hlt1
              rw [HNN.out] at hc
              go_wp2
              go_meet
              exact ⟨H14.out.1.set_ 3 (.int .i64 n), H14.out.2.setCell (Nat.le_refl _) _⟩
            · have e := H3.out.out hlt1
              rw [HNN.out] at e
              subst e
              go_wp2
              go_meet
              exact H14.out
          case rest =>
            obtain ⟨h14, hb14⟩ := hcut
            have H14 := Lib.hid (And.intro h14 hb14)
            obtain ⟨⟨c0, c1, c2, c3, c4, c5, c6, c7⟩, f0, f1, f2, f3, f4, f5, f6, f7⟩ := h14.eight
            clear h14 hb14
            go_upto_if 57 with fail
            go_cut [] (fun wx => At wx wr.heap.size 31 [.int .i64 op, .int .i64 px, .int .i64 py, .int .i64 n, .int .i64 a, .int .i64 b, .int .i64 c, .int .i64 d] ∧ Below wr.heap.size wr wx)
            case first =>
              by_cases hlt1 : k < n4
              · obtain ⟨b4, o4, rfl, hb4, hc⟩ := (H4.out.by (HB.out.trans (H14.out.2.mono HB.out.size))).2 (by omega)
                obtain ⟨Ai, ni, ci, hcell, hints⟩ := hc k hlt1
                have hr := lrect_any Ai ni ci _ _ hints
                rw [HR.out] at hr
                have HRR := Lib.hid hr
                clear hc hints hr
                go_wp2_with fail
                refine HRR.out.mono ?_
                rintro _ wy ⟨rfl, hby⟩
                have H15 := Lib.hid (And.intro (H14.out.1.by hby) (H14.out.2.trans (hby.mono H14.out.2.size)))
                clear hby hcell c0 c1 c2 c3 c4 c5 c6 c7 f0 f1 f2 f3 f4 f5 f6 f7
                obtain ⟨⟨c0, c1, c2, c3, c4, c5, c6, c7⟩, f0, f1, f2, f3, f4, f5, f6, f7⟩ := H15.out.1.eight
                go_wp2
                go_meet
                exact ⟨(((H15.out.1.set_ 4 (.int .i64 a)).set_ 5 (.int .i64 b)).set_ 6 (.int .i64 c)).set_ 7 (.int .i64 d), (((H15.out.2.setCell (Nat.le_refl _) _).setCell (Nat.le_refl _) _).setCell (Nat.le_refl _) _).setCell (Nat.le_refl _) _⟩
              · have e : z4.getD k [] = [] := by have := H4.out.1; simp [List.getElem?_eq_none (show z4.length ≤ k by omega)]
                have e2 := HR.out
                rw [e] at e2
                simp only [rectOf, List.getD_nil, R.mk.injEq] at e2
                obtain ⟨rfl, rfl, rfl, rfl⟩ := e2
                go_wp2
                go_meet
                exact H14.out
            case rest =>
              obtain ⟨h14, hb14⟩ := hcut
              have HO4 := Lib.hid (HO.out.by hb14)
              have HB4 := Lib.hid (HB.out.trans (hb14.mono HB.out.size))
              obtain ⟨⟨c0, c1, c2, c3, c4, c5, c6, c7⟩, -⟩ := h14.eight
              clear h14 hb14
              go_wp2_with (at_builtin; refine append_step rfl (.tmp 64) (.tmp 66) rfl _ w.heap.size _ _ ⟨op, px, py, n, ⟨a, b, c, d⟩⟩ rfl HO4.out rfl (by rw [scriptS_length]; omega) HB4.out.size ?_; intro v' w4 hown4 hb4 _)
              go_roundw
              case rel =>
                refine ⟨k + 1, by omega, by go_num, ?_, HB4.out.trans hb4⟩
                rw [scriptS_succ, HS.out]
                exact hown4
              case measure => simp [intOf]; omega
    · obtain rfl : k = n0 := by omega
      go_wp2
      go_ret
      exact ⟨_, rfl, HO.out, HB.out⟩
end Go.Proofs.Ytenhhkeajhkfoaa
