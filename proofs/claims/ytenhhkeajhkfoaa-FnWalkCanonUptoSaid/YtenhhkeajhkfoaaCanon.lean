/- The walk of FnWalkCanon. Conditions: at most 1048576 kinds. -/
import Derived.Test.YtenhhkeajhkfoaaScript
import Derived.Test.YtenhhkeajhkfoaaTail
import Derived.Test.YtenhhkeajhkfoaaPlainCanon
import Derived.Test.YtenhhkeajhkfoaaAppend
import Derived.Test.YtenhhkeajhkfoaaBoth
import Derived.Test.YtenhhkeajhkfoaaBlocks
import Derived.Outline
namespace Go.Proofs.Ytenhhkeajhkfoaa
open Go.RowKit

/-- four numbers at a place; one value at a place -/
def Four (w : World) (g o : Nat) (p q s t : Int) : Prop := g < w.heap.size ∧ w.cell? ⟨g, o, none⟩ = some (.int .i64 p) ∧ w.cell? ⟨g, o + 1, none⟩ = some (.int .i64 q) ∧ w.cell? ⟨g, o + 2, none⟩ = some (.int .i64 s) ∧ w.cell? ⟨g, o + 3, none⟩ = some (.int .i64 t)
theorem Four.by {w w' : World} {g o : Nat} {p q s t : Int} (h : Four w g o p q s t) (hb : Below w.heap.size w w') : Four w' g o p q s t :=
  ⟨Nat.lt_of_lt_of_le h.1 hb.size, (hb.cell (p := ⟨g, o, none⟩) h.1).trans h.2.1, (hb.cell (p := ⟨g, o + 1, none⟩) h.1).trans h.2.2.1, (hb.cell (p := ⟨g, o + 2, none⟩) h.1).trans h.2.2.2.1, (hb.cell (p := ⟨g, o + 3, none⟩) h.1).trans h.2.2.2.2⟩
def One (w : World) (g o : Nat) (v : Value) : Prop := g < w.heap.size ∧ w.cell? ⟨g, o, none⟩ = some v
theorem One.mk {w : World} {g o : Nat} {v : Value} (h : g < w.heap.size) (h2 : w.cell? ⟨g, o, none⟩ = some v) : One w g o v := ⟨h, h2⟩
theorem One.by {w w' : World} {g o : Nat} {v : Value} (h : One w g o v) (hb : Below w.heap.size w w') : One w' g o v :=
  ⟨Nat.lt_of_lt_of_le h.1 hb.size, (hb.cell (p := ⟨g, o, none⟩) h.1).trans h.2⟩
theorem Rects.four {w : World} {g o : Nat} {l : List R} (h : Rects w (some ⟨g, o, none⟩) l) {i : Nat} (hi : i < l.length) {p q s t : Int} (he : l[i] = ⟨p, q, s, t⟩) (hg : g < w.heap.size) : Four w g (o + i * 4) p q s t := ⟨hg, h.cells hi he⟩
theorem stepR_canon (p q s t : Int) (h : R.wf ⟨p, q, s, t⟩ = true) : stepR 3 0 0 0 ⟨0, 0, 0, 0⟩ ⟨p, q, s, t⟩ = ⟨p, q, s, t⟩ := canon_wf h

def tab_canon17f : List (List Nat) := [[], [0], [0, 1], [0, 1, 2], [0, 1, 2, 3], [0, 1, 2, 3, 4], [0, 1, 2, 3, 4, 5], [0, 1, 2, 3, 4, 5, 6], [0, 1, 2, 3, 4, 5, 6, 7], [0, 1, 2, 3, 4, 5, 6, 7, 8], [0, 1, 2, 3, 4, 5, 6, 7, 8, 9], [0, 1, 2, 3, 4, 5, 6, 7, 8, 9, 10], [0, 1, 2, 3, 4, 5, 6, 7, 8], [0, 1, 2, 3, 4, 5, 6, 7, 8, 9, 10, 11, 12], [0, 1, 2, 3, 4, 5, 6, 7, 8, 9, 10, 11, 12, 13], [0, 1, 2, 3, 4, 5, 6, 7, 8, 9, 10, 11, 12, 13, 14], [0, 1, 2, 3, 4, 5, 6, 7, 8, 9, 10, 11, 12, 13, 14, 15], [0, 1, 2, 3, 4, 5, 6, 7, 8, 9, 10, 11, 12, 13, 14, 15], [0, 1, 2, 3, 4, 5, 6, 7, 8, 9, 10, 11, 12, 13, 14, 15, 16, 17], [0, 1, 2, 3, 4, 5, 6, 7, 8, 9, 10, 11, 12, 13, 14, 15, 16, 17, 18], [0, 1, 2, 3, 4, 5, 6, 7, 8, 9, 10, 11, 12, 13, 14, 15, 16, 17, 18, 19], [0, 1, 2, 3, 4, 5, 6, 7, 8, 9, 10, 11, 12, 13, 14, 15, 16, 17, 18, 19, 20], [0, 1, 2, 3, 4, 5, 6, 7, 8, 9, 10, 11, 12, 13, 14, 15, 16, 17, 18, 19, 20, 21], [0, 1, 2, 3, 4, 5, 6, 7, 8, 9, 10, 11, 12, 13, 14, 15, 16, 17, 18, 19, 20, 21, 22], [0, 1, 2, 3, 4, 5, 6, 7, 8, 9, 10, 11, 12, 13, 14, 15, 16, 17, 18, 19, 20, 21, 22, 23], [0, 1, 2, 3, 4, 5, 6, 7, 8, 9, 10, 11, 12, 13, 14, 15, 16, 17, 18, 19, 20, 21, 22, 23, 24], [0, 1, 2, 3, 4, 5, 6, 7, 8, 9, 10, 11, 12, 13, 14, 15, 16, 17, 18, 19, 20, 21, 22, 23, 24, 25], [0, 1, 2, 3, 4, 5, 6, 7, 8, 9, 10, 11, 12, 13, 14, 15, 16, 17, 18, 19, 20, 21, 22, 23, 24, 25, 26], [0, 1, 2, 3, 4, 5, 6, 7, 8, 9, 10, 11, 12, 13, 14, 15, 16, 17, 18, 19, 20, 21, 22, 23, 24, 25, 26], [0, 1, 2, 3, 4, 5, 6, 7, 8, 9, 10, 11, 12, 13, 14, 15, 16, 17, 18, 19, 20, 21, 22, 23, 24, 25, 26, 28], [0, 1, 2, 3, 4, 5, 6, 7, 8, 9, 10, 11, 12, 13, 14, 15, 16, 17, 18, 19, 20, 21, 22, 23, 24, 25, 26, 27, 28, 29], [0, 1, 2, 3, 4, 5, 6, 7, 8, 9, 10, 11, 12, 13, 14, 15, 16, 17, 18, 19, 20, 21, 22, 23, 24, 25, 26, 27, 28, 29, 30], [0, 1, 2, 3, 4, 5, 6, 7, 8, 9, 10, 11, 12, 13, 14, 15, 16, 17, 18, 19, 20, 21, 22, 23, 24, 25, 26], [0, 1, 2, 3, 4, 5, 6, 7, 8, 9, 10, 11, 12, 13, 14, 15, 16, 17, 18, 19, 20, 21, 22, 23, 24, 25, 26, 27, 28, 29, 30, 31, 32], [0, 1, 2, 3, 4, 5, 6, 7, 8, 9, 10, 11, 12, 13, 14, 15, 16, 17, 18, 19, 20, 21, 22, 23, 24, 25, 26, 27, 28, 29, 30, 31, 32, 33], [0, 1, 2, 3, 4, 5, 6, 7, 8, 9, 10, 11, 12, 13, 14, 15, 16, 17, 18, 19, 20, 21, 22, 23, 24, 25, 26, 27, 28, 29, 30, 31, 32, 33, 34]]
set_option maxHeartbeats 8000000 in
theorem canon_walk (A A0 A1 A2 A3 A4 : Option Addr) (n c n0 c0 n1 c1 n2 c2 n3 c3 n4 c4 : Nat) (z z0 z1 z2 z3 : List Int) (z4 : List (List Int)) (w : World)
    (h : Ints w A n z) (h0 : Ints w A0 n0 z0) (h1 : Ints w A1 n1 z1) (h2 : Ints w A2 n2 z2) (h3 : Ints w A3 n3 z3) (h4 : RowsAt w A4 n4 z4) (hn : n0 ≤ 1048576) :
    Calls Try.prog 4 #[.slice A n c, .slice A0 n0 c0, .slice A1 n1 c1, .slice A2 n2 c2, .slice A3 n3 c3, .slice A4 n4 c4] w fun e w' => e = .returned (.bool true) ∧ Below w.heap.size w w' := by
  have L := fun u hu => lrect_any A n c z u hu
  generalize rectOf z = sr at L
  obtain ⟨a, b, x, d⟩ := sr
  have HL := Lib.hid L
  have HS := Lib.hid (fun u b0 b1 b2 b3 b4 => script_any A0 A1 A2 A3 A4 n0 c0 n1 c1 n2 c2 n3 c3 n4 c4 z0 z1 z2 z3 z4 u b0 b1 b2 b3 b4 hn)
  obtain ⟨l, hl⟩ : ∃ l, scriptS z0 z1 z2 z3 z4 n0 = l := ⟨_, rfl⟩
  have hm : l.length ≤ 1048576 := by rw [← hl, scriptS_length]; exact hn
  rw [hl] at HS
  clear hl
  have H := Lib.hid h
  have HH := Lib.hid (And.intro h0 (And.intro h1 (And.intro h2 (And.intro h3 h4))))
  clear L h h0 h1 h2 h3 h4
  go_enter Try.func4, Try.ntmps4
  go_wp2_with fail
  refine (HL.out _ H.out).mono ?_
  rintro _ w1 ⟨rfl, hb1⟩
  have HB1 := Lib.hid hb1
  clear hb1
  go_wp2_with fail
  refine (HS.out _ (HH.out.1.below (Nat.le_refl _) HB1.out) (HH.out.2.1.below (Nat.le_refl _) HB1.out) (HH.out.2.2.1.below (Nat.le_refl _) HB1.out) (HH.out.2.2.2.1.below (Nat.le_refl _) HB1.out) (HH.out.2.2.2.2.by HB1.out)).mono ?_
  rintro _ w2 ⟨v2, rfl, ho2, hb2⟩
  obtain ⟨A14, c14, rfl, hS⟩ := ho2.form
  have HB2 := Lib.hid (HB1.out.trans (hb2.mono HB1.out.size))
  have HO2 := Lib.hid (And.intro ho2 hS)
  have hsz : w.heap.size ≤ w1.heap.size := HB1.out.size
  clear hb2 ho2 hS HB1 HL H HS HH
  obtain ⟨near, hnear⟩ : ∃ near, nearAll ⟨a, b, x, d⟩ l = near := ⟨_, rfl⟩
  obtain ⟨wf, hwf⟩ : ∃ wf, R.wf ⟨a, b, x, d⟩ = wf := ⟨_, rfl⟩
  have HNE := Lib.hid hnear
  have HWF := Lib.hid hwf
  clear hnear hwf
  go_wp2_with fail
  have hb3 := (Below.refl w2.heap.size w2).alloc (Nat.le_refl _) (.cells #[.int .i64 a, .int .i64 b, .int .i64 x, .int .i64 d] 25)
  have h13 := At.new w2 25 [.int .i64 a, .int .i64 b, .int .i64 x, .int .i64 d]
  have hSM := small_any a b x d A14 c14 l _ (HO2.out.2.by hb3) (by omega)
  rw [HNE.out] at hSM
  refine hSM.mono ?_
  clear hSM
  rintro _ w3 ⟨rfl, hb4⟩
  have hb5 := hb3.trans (hb4.mono hb3.size)
  have HI3 := Lib.hid (And.intro (HO2.out.1.by hb5) (And.intro (h13.by hb4) (HB2.out.trans (hb5.mono HB2.out.size))))
  clear h13 hb3 hb4 hb5 HB2
  cases near with
  | false =>
    go_wp2
    go_ret
    exact ⟨rfl, HI3.out.2.2⟩
  | true =>
  obtain ⟨⟨y0, y1, y2, y3⟩, -⟩ := HI3.out.2.1.four
  go_wp2_with fail
  clear y0 y1 y2 y3
  have hWF := wellFormed_any a b x d w3
  rw [HWF.out] at hWF
  refine hWF.mono ?_
  clear hWF
  rintro _ w4 ⟨rfl, hb4⟩
  have HI4 := Lib.hid (And.intro (HI3.out.1.by hb4) (And.intro (HI3.out.2.1.by hb4) (HI3.out.2.2.trans (hb4.mono HI3.out.2.2.size))))
  clear hb4 HI3
  cases wf with
  | false =>
    go_wp2
    go_ret
    exact ⟨rfl, HI4.out.2.2⟩
  | true =>
  go_wp2
  go_loopw [40] (fun i wr => ∃ k : Nat, k ≤ l.length ∧ i = .int .i64 k ∧ OwnS wr w1.heap.size (.slice A14 l.length c14) (chTo S.fit l k) ∧ At wr w2.heap.size 25 [.int .i64 a, .int .i64 b, .int .i64 x, .int .i64 d] ∧ Below w.heap.size w wr) (fun i _ => l.length - (intOf i).toNat)
  case atStart => exact ⟨0, Nat.zero_le _, rfl, by rw [chTo_zero]; exact HI4.out.1, HI4.out.2.1, HI4.out.2.2⟩
  case round =>
    obtain ⟨k, hk, rfl, hown, hat, hbel⟩ := hrel
    by_cases hlt : k < l.length
    · obtain ⟨A', c', e1, hst⟩ := hown.form
      injection e1 with e1 e2 e3
      clear e2
      subst e1 e3
      obtain ⟨gs, os, rfl, hgs, y0, y1, y2, y3, y4, y5, y6, y7⟩ := hst.at_ (i := k) (by rw [chTo_length]; exact hlt)
      obtain ⟨rfl, -, hbase, -⟩ := hown.open_
      have hsuc := chTo_succ S.fit l k hlt
      have hsame : (chTo S.fit l k).set k l[k] = chTo S.fit l k := by
        have h := chTo_get S.fit l k hlt
        rw [← h]
        exact List.set_getElem_self _
      have hgk := chTo_get S.fit l k hlt
      rw [chTo_get S.fit l k hlt] at y0 y1 y2 y3 y4 y5 y6 y7
      generalize l[k] = s at y0 y1 y2 y3 y4 y5 y6 y7 hsuc hsame hgk
      obtain ⟨op, px, py, n', ⟨e', f', g', h'⟩⟩ := s
      dsimp only at y0 y1 y2 y3 y4 y5 y6 y7
      obtain ⟨wf, hwf⟩ : ∃ wf, R.wf ⟨e', f', g', h'⟩ = wf := ⟨_, rfl⟩
      have HI := Lib.hid (And.intro hown (And.intro hat hbel))
      have HSUC := Lib.hid (And.intro hsuc (And.intro hsame (And.intro hgk hwf)))
      clear hown hst hsuc hsame hat hbel hgk hwf
      simp only [Nat.zero_add] at y0 y1 y2 y3 y4 y5 y6 y7
      go_wp2_with fail
      clear y0 y1 y2 y3 y4 y5 y6 y7
      have hWF := wellFormed_any e' f' g' h' (wr.alloc (.cells #[.int .i64 op, .int .i64 px, .int .i64 py, .int .i64 n', .int .i64 e', .int .i64 f', .int .i64 g', .int .i64 h'] 31))
      rw [HSUC.out.2.2.2] at hWF
      refine hWF.mono ?_
      clear hWF
      rintro _ w5 ⟨rfl, hb4⟩
      have hb5 := ((Below.refl wr.heap.size wr).alloc (Nat.le_refl _) (.cells #[.int .i64 op, .int .i64 px, .int .i64 py, .int .i64 n', .int .i64 e', .int .i64 f', .int .i64 g', .int .i64 h'] 31)).trans (hb4.mono (by simp))
      have hown := HI.out.1.by hb5
      have hat := HI.out.2.1.by hb5
      have hbel := HI.out.2.2.trans (hb5.mono HI.out.2.2.size)
      have hset := hown.setop (k := k) (by rw [chTo_length]; exact hlt) (-1)
      rw [HSUC.out.2.2.1] at hset
      have hfz : w5.frozen? ⟨gs, k * 8, none⟩ = false := hown.frozen
      have hne := hown.ne hat (by decide)
      have y0 : w5.cell? ⟨gs, k * 8, none⟩ = some (.int .i64 op) := by
        obtain ⟨A', c', e1, hst⟩ := hown.form
        injection e1 with e1 _ _
        subst e1
        obtain ⟨g2, o2, e2, _, hc, _⟩ := hst.at_ (i := k) (by rw [chTo_length]; exact hlt)
        simp only [Option.some.injEq, Addr.mk.injEq, and_true] at e2
        obtain ⟨rfl, rfl⟩ := e2
        rw [HSUC.out.2.2.1, Nat.zero_add] at hc
        exact hc
      have HJ := Lib.hid (And.intro hown (And.intro hat (And.intro hbel (And.intro hset (And.intro hne (hbel.setCell (p := ⟨gs, k * 8, none⟩) (show w.heap.size ≤ gs by omega) (.int .i64 (-1))))))))
      clear hown hat hbel hset hne hb4 hb5 HI
      cases wf with
      | true =>
        go_wp2
        go_roundw
        case rel =>
          refine ⟨k + 1, by omega, by go_num, ?_, HJ.out.2.1, HJ.out.2.2.1⟩
          rw [HSUC.out.1, show S.fit ⟨op, px, py, n', ⟨e', f', g', h'⟩⟩ = ⟨op, px, py, n', ⟨e', f', g', h'⟩⟩ from if_pos HSUC.out.2.2.2, HSUC.out.2.1]
          exact HJ.out.1
        case measure => simp [intOf]; omega
      | false =>
        go_wp2
        go_roundw
        case rel =>
          refine ⟨k + 1, by omega, by go_num, ?_, HJ.out.2.1.far HJ.out.2.2.2.2.1 _, HJ.out.2.2.2.2.2⟩
          rw [HSUC.out.1, show S.fit ⟨op, px, py, n', ⟨e', f', g', h'⟩⟩ = S.as ⟨op, px, py, n', ⟨e', f', g', h'⟩⟩ (-1) from if_neg (fun h => by have := HSUC.out.2.2.2.symm.trans h; cases this)]
          exact HJ.out.2.2.2.1
        case measure => simp [intOf]; omega
    · obtain rfl : k = l.length := by omega
      obtain ⟨ll, hll⟩ : ∃ ll, ll = l.map S.fit := ⟨_, rfl⟩
      rw [chTo_all, ← hll] at hown
      have hln : ll.length = l.length := by rw [hll, List.length_map]
      have hst : Steps wr A14 ll := by
        obtain ⟨A', c', e1, hst⟩ := hown.form
        injection e1 with e1
        subst e1
        exact hst
      have hL1 : ∀ k, (runS ⟨a, b, x, d⟩ (ll.take k)).wf = true := fun k => by rw [hll]; exact wf_take HNE.out HWF.out k
      have hL2 : ∀ k, ∀ hk : k < ll.length, ll[k].op = 3 → runS ⟨a, b, x, d⟩ (ll.take (k + 1)) = runS ⟨a, b, x, d⟩ (ll.take k) := by
        subst hll
        exact fun k hk h3 => canon_keeps HNE.out HWF.out k hk h3
      have hWk := walk_any a b x d A14 c14 ll wr hst (by omega)
      rw [hln] at hWk
      have HST := Lib.hid hst
      have HLW := Lib.hid (And.intro hL1 hL2)
      have HB := Lib.hid hbel
      have HWK := Lib.hid hWk
      have HLN := Lib.hid hln
      obtain ⟨⟨y0, y1, y2, y3⟩, -⟩ := hat.four
      clear hown hat hbel hst hL1 hL2 hWk hll hln
      go_wp2_with fail
      clear y0 y1 y2 y3
      refine HWK.out.mono ?_
      rintro _ w6 ⟨v17, rfl, ho6, hb6⟩
      obtain ⟨A17, c17, rfl, hR17, -⟩ := ho6.form'
      rw [runsS_length] at *
      have HR17 := Lib.hid hR17
      have HB6 := Lib.hid (HB.out.trans (hb6.mono HB.out.size))
      have HST6 := Lib.hid (HST.out.by hb6)
      clear ho6 hb6 hR17 HWK HB HST
      go_wp2
      go_loopw [64] (fun i wr => ∃ j : Nat, j ≤ l.length ∧ i = .int .i64 j ∧ Below w6.heap.size w6 wr) (fun i _ => l.length - (intOf i).toNat)
      case atStart => exact ⟨0, Nat.zero_le _, rfl, Below.refl _ _⟩
      case round =>
        obtain ⟨j, hj, rfl, hbel⟩ := hrel
        have HB := Lib.hid hbel
        clear hbel
        by_cases hlt : j < l.length
        · have hLN := HLN.out
          obtain ⟨g17, o17, rfl, hg17⟩ := (HR17.out.by HB.out).addr (by rw [runsS_length]; omega)
          obtain ⟨gs, os, rfl, hgs, u0, -⟩ := (HST6.out.by HB.out).at_ (i := j) (by omega)
          obtain ⟨⟨p, q, s, t⟩, hr⟩ : ∃ v : R, runS ⟨a, b, x, d⟩ (ll.take (j + 1)) = v := ⟨_, rfl⟩
          obtain ⟨op, hop⟩ : ∃ o, (ll[j]'(by omega)).op = o := ⟨_, rfl⟩
          have hget := (runsS_get ⟨a, b, x, d⟩ ll l.length j hlt).trans hr
          obtain ⟨y0, y1, y2, y3⟩ := (HR17.out.by HB.out).cells (i := j) (by rw [runsS_length]; exact hlt) hget
          have hwf := HLW.out.1 (j + 1)
          rw [hr] at hwf
          rw [hop] at u0
          have HWR := Lib.hid hwf
          have hwc := fun u => wellFormed_any p q s t u
          rw [hwf] at hwc
          have HWFR := Lib.hid hwc
          have HU := Lib.hid (And.intro hr hop)
          have HOP := Lib.hid (One.mk hgs u0)
          clear hwf hwc hr hop hget u0
          go_wp2_with fail
          refine (walk_one 3 p q s t 0 0 0 0 _ _ (by simp only [size_alloc])).mono ?_
          rintro _ w7 ⟨v, rfl, hown, hb7⟩
          rw [stepR_canon p q s t HWR.out] at hown
          obtain ⟨A', c20, rfl, hR⟩ := hown.form
          obtain ⟨g20, o20, rfl, hg20⟩ := hR.addr (by simp)
          have hf20 := hR.four (i := 0) (by simp) rfl hg20
          simp only [Nat.zero_mul, Nat.add_zero] at hf20
          have h19 := ((At.new wr 25 [.int .i64 p, .int .i64 q, .int .i64 s, .int .i64 t]).alloc (.cells #[.int .i64 3, .int .i64 0, .int .i64 0, .int .i64 0, .int .i64 0, .int .i64 0, .int .i64 0, .int .i64 0] 31)).by hb7
          have hbb := (two_new wr (.cells #[.int .i64 p, .int .i64 q, .int .i64 s, .int .i64 t] 25) (.cells #[.int .i64 3, .int .i64 0, .int .i64 0, .int .i64 0, .int .i64 0, .int .i64 0, .int .i64 0, .int .i64 0] 31)).trans (hb7.mono (by simp only [size_alloc]; omega))
          have HB7 := Lib.hid (HB.out.trans (hbb.mono HB.out.size))
          have hV := And.intro h19 (And.intro hf20 (And.intro (HOP.out.by hbb) (Below.refl w7.heap.size w7)))
          clear h19 hf20 hbb hb7 hown hR y0 y1 y2 y3 HOP
          simp only [List.length_singleton]
          by_cases h3 : op = 3
          · subst h3
            by_cases h0 : 0 < j
            · have d1 : decide (0 < j) = true := decide_eq_true h0
              have d2 : decide ((0 : Int) < j) = true := decide_eq_true (by omega)
              have x1 : IntKind.i64.wrap ((j : Int) - 1) = (j : Int) - 1 := IntWalk.i64_in _ (by omega)
              have x2 : 0 ≤ (j : Int) - 1 := by omega
              have x3 : (j : Int) - 1 < l.length := by omega
              have x4 : ((j : Int) - 1).toNat = j - 1 := by omega
              have x5 : 1 ≤ (j : Int) := by omega
              have x6 : 1 ≤ j := h0
              have hp := HLW.out.2 j (by omega) HU.out.2
              rw [HU.out.1] at hp
              have hg2 := runsS_get ⟨a, b, x, d⟩ ll l.length (j - 1) (by omega)
              rw [show j - 1 + 1 = j by omega, ← hp] at hg2
              have HPREV := Lib.hid (((HR17.out.by HB7.out)).four (i := j - 1) (by rw [runsS_length]; omega) hg2 (by have := HB7.out; obtain ⟨_, _, e, h⟩ := (HR17.out.by HB7.out).addr (by rw [runsS_length]; omega); simp only [Option.some.injEq, Addr.mk.injEq, and_true] at e; omega))
              clear hp hg2
              have HV := Lib.hid hV
              clear hV
              go_wp2_with fail
              refine from_table tab_canon17f (by kernel_rfl) (by kernel_rfl) (by kernel_rfl) (by kernel_rfl) fun hTab => ?_
              refine from_gen (fun u => At u wr.heap.size 25 [.int .i64 p, .int .i64 q, .int .i64 s, .int .i64 t] ∧ Four u g20 o20 p q s t ∧ One u gs (os + j * 8) (.int .i64 3) ∧ Four u g17 (o17 + (j - 1) * 4) p q s t ∧ Below w7.heap.size w7 u) ?_ ?_
              · exact ⟨HV.out.1.drew, HV.out.2.1, HV.out.2.2.1, HPREV.out, HV.out.2.2.2.drew⟩
              intro u hW
              -- operation 0 alone
              refine from_one' hTab 0 (by kernel_rfl) ?_
              obtain ⟨c0, c1, c2, c3⟩ := hW.1.four.1
              have HW := Lib.hid hW
              clear hW
              refine wpOp_step rfl fun K hK => ?_
              go_simp
              refine hK _ _ ?_
              clear hK K c0 c1 c2 c3
              have hW := HW.out
              clear HW
              -- operation 1 alone
              refine from_one' hTab 1 (by kernel_rfl) ?_
              have HW := Lib.hid hW
              clear hW
              refine wpOp_step rfl fun K hK => ?_
              go_simp
              go_at_call 18
              refine (HWFR.out _).mono ?_
              rintro _ w' ⟨rfl, hb⟩
              refine hK _ _ ?_
              clear hK K
              refine from_gen (fun u => (At u wr.heap.size 25 [.int .i64 p, .int .i64 q, .int .i64 s, .int .i64 t] ∧ Four u g20 o20 p q s t ∧ One u gs (os + j * 8) (.int .i64 3) ∧ Four u g17 (o17 + (j - 1) * 4) p q s t ∧ Below w7.heap.size w7 u)) ⟨HW.out.1.by hb, HW.out.2.1.by hb, HW.out.2.2.1.by hb, HW.out.2.2.2.1.by hb, HW.out.2.2.2.2.trans (hb.mono HW.out.2.2.2.2.size)⟩ ?_
              clear hb HW
              intro u hW
              -- operation 2 alone
              refine from_one' hTab 2 (by kernel_rfl) ?_
              have HW := Lib.hid hW
              clear hW
              refine wpOp_step rfl fun K hK => ?_
              go_simp
              refine hK _ _ ?_
              clear hK K
              have hW := HW.out
              clear HW
              -- operation 3 alone
              refine from_one' hTab 3 (by kernel_rfl) ?_
              have HW := Lib.hid hW
              clear hW
              refine wpOp_step rfl fun K hK => ?_
              go_simp
              refine hK _ _ ?_
              clear hK K
              have hW := HW.out
              clear HW
              -- operation 4 alone
              refine from_one' hTab 4 (by kernel_rfl) ?_
              have HW := Lib.hid hW
              clear hW
              refine wpOp_step rfl fun K hK => ?_
              go_simp
              refine hK _ _ ?_
              clear hK K
              have hW := HW.out
              clear HW
              -- operation 5 alone
              refine from_one' hTab 5 (by kernel_rfl) ?_
              have HW := Lib.hid hW
              clear hW
              refine wpOp_step rfl fun K hK => ?_
              go_simp
              refine hK _ _ ?_
              clear hK K
              have hW := HW.out
              clear HW
              -- operation 6 alone
              refine from_one' hTab 6 (by kernel_rfl) ?_
              have HW := Lib.hid hW
              clear hW
              refine wpOp_step rfl fun K hK => ?_
              go_simp
              refine hK _ _ ?_
              clear hK K
              have hW := HW.out
              clear HW
              -- operation 7 alone
              refine from_one' hTab 7 (by kernel_rfl) ?_
              have HW := Lib.hid hW
              clear hW
              refine wpOp_step rfl fun K hK => ?_
              go_simp
              refine hK _ _ ?_
              clear hK K
              have hW := HW.out
              clear HW
              -- operation 8 alone
              refine from_one' hTab 8 (by kernel_rfl) ?_
              have HW := Lib.hid hW
              clear hW
              refine wpOp_step rfl fun K hK => ?_
              go_simp
              refine hK _ _ ?_
              clear hK K
              have hW := HW.out
              clear HW
              -- operations 9 to 12
              refine from_block' hTab 9 13 (by decide) (by kernel_rfl)
                (fun L a' u => ∃ v82 v83 v84 v85 : Value, a' = ⟨#[Value.slice A n c, Value.slice A0 n0 c0, Value.slice A1 n1 c1, Value.slice A2 n2 c2, Value.slice A3 n3 c3, Value.slice A4 n4 c4, undef, undef, undef, undef, undef, undef, u12, .pointer (some ⟨w2.heap.size, 0, none⟩), .slice (some ⟨gs, os, none⟩) l.length c14, u15, u16, .slice (some ⟨g17, o17, none⟩) l.length c17, .int .i64 ↑j, .pointer (some ⟨wr.heap.size, 0, none⟩), .slice (some ⟨g20, o20, none⟩) 1 c20, Value.slice A n c, .agg #[.int .i64 a, .int .i64 b, .int .i64 x, .int .i64 d], Value.slice A0 n0 c0, Value.slice A1 n1 c1, Value.slice A2 n2 c2, Value.slice A3 n3 c3, Value.slice A4 n4 c4, .slice (some ⟨gs, os, none⟩) l.length c14, .agg #[.int .i64 a, .int .i64 b, .int .i64 x, .int .i64 d], .slice (some ⟨gs, os, none⟩) l.length c14, .bool true, .bool false, .bool false, .agg #[.int .i64 a, .int .i64 b, .int .i64 x, .int .i64 d], .bool true, .bool false, .bool false, .slice (some ⟨gs, os, none⟩) l.length c14, .int .i64 ↑l.length, .int .i64 ↑l.length, .bool false, u42, u43, u44, u45, u46, u47, u48, u49, u50, u51, u52, u53, .agg #[.int .i64 a, .int .i64 b, .int .i64 x, .int .i64 d], .slice (some ⟨gs, os, none⟩) l.length c14, .slice (some ⟨g17, o17, none⟩) l.length c17, .slice (some ⟨g17, o17, none⟩) l.length c17, .int .i64 ↑l.length, .slice (some ⟨gs, os, none⟩) l.length c14, .int .i64 ↑l.length, .bool false, .slice (some ⟨g17, o17, none⟩) l.length c17, .int .i64 ↑l.length, .int .i64 ↑j, .bool true, .int .i64 ↑j, .pointer (some ⟨g17, o17 + j * 4, none⟩), .agg #[.int .i64 p, .int .i64 q, .int .i64 s, .int .i64 t], .agg #[.int .i64 p, .int .i64 q, .int .i64 s, .int .i64 t], .agg #[.int .i64 3, .int .i64 0, .int .i64 0, .int .i64 0, .int .i64 0, .int .i64 0, .int .i64 0, .int .i64 0], .slice (some ⟨wr.heap.size + 1, 0, none⟩) 1 1, .slice (some ⟨g20, o20, none⟩) 1 c20, .agg #[.int .i64 (p), .int .i64 (q), .int .i64 (s), .int .i64 (t)], .bool true, .bool false, .bool false, .slice (some ⟨g20, o20, none⟩) 1 c20, .int .i64 1, .bool false, .bool false, .bool false, v82, v83, v84, v85, u86, u87, u88, u89, u90, u91, u92, u93, u94, u95, u96, u97, u98, u99, u100, u101, u102, u103, u104, u105, u106, u107, u108, u109], []⟩ ∧
                  Hid (L 9 = true → v82 = .slice (some ⟨g20, o20, none⟩) 1 c20) ∧ Hid (L 10 = true → v83 = .pointer (some ⟨g20, o20, none⟩)) ∧ Hid (L 11 = true → v84 = .agg #[.int .i64 (p), .int .i64 (q), .int .i64 (s), .int .i64 (t)]) ∧ Hid (L 12 = true → v85 = .agg #[.int .i64 (p), .int .i64 (q), .int .i64 (s), .int .i64 (t)]) ∧ (At u wr.heap.size 25 [.int .i64 p, .int .i64 q, .int .i64 s, .int .i64 t] ∧ Four u g20 o20 p q s t ∧ One u gs (os + j * 8) (.int .i64 3) ∧ Four u g17 (o17 + (j - 1) * 4) p q s t ∧ Below w7.heap.size w7 u)) ?_ ?_ ?_
              · exact ⟨_, _, _, _, rfl, (Lib.hid fun h => by cases h), (Lib.hid fun h => by cases h), (Lib.hid fun h => by cases h), (Lib.hid fun h => by cases h), hW⟩
              · clear hW
                intro L a' u i hi1 hi2 hI hL hd
                obtain ⟨v82, v83, v84, v85, rfl, k9, k10, k11, k12, hW⟩ := hI
                obtain rfl | rfl | rfl | rfl := (show ∀ i : Nat, 9 ≤ i → i < 13 → (i = 9 ∨ i = 10 ∨ i = 11 ∨ i = 12) by omega) i hi1 hi2
                · -- operation 9
                  have HW := Lib.hid hW
                  clear hW hL hd hi1 hi2
                  refine wpOp_step rfl fun K hK => ?_
                  go_simp
                  refine hK _ _ ⟨_, _, _, _, rfl, (Lib.hid fun _ => rfl), k10, k11, k12, HW.out⟩
                · -- operation 10
                  obtain rfl := k9.out (hd 9 (by decide))
                  have HW := Lib.hid hW
                  clear hW hL hd hi1 hi2
                  refine wpOp_step rfl fun K hK => ?_
                  go_simp
                  refine hK _ _ ⟨_, _, _, _, rfl, k9, (Lib.hid fun _ => rfl), k11, k12, HW.out⟩
                · -- operation 11
                  obtain rfl := k10.out (hd 10 (by decide))
                  obtain ⟨c0, c1, c2, c3⟩ := hW.2.1.2
                  have HW := Lib.hid hW
                  clear hW hL hd hi1 hi2
                  refine wpOp_step rfl fun K hK => ?_
                  go_simp
                  refine hK _ _ ⟨_, _, _, _, rfl, k9, k10, (Lib.hid fun _ => rfl), k12, HW.out⟩
                · -- operation 12
                  obtain ⟨c0, c1, c2, c3⟩ := hW.1.four.1
                  have HW := Lib.hid hW
                  clear hW hL hd hi1 hi2
                  refine wpOp_step rfl fun K hK => ?_
                  go_simp
                  refine hK _ _ ⟨_, _, _, _, rfl, k9, k10, k11, (Lib.hid fun _ => rfl), HW.out⟩
              clear hW
              clear u
              intro L a' u hI hall
              obtain ⟨v82, v83, v84, v85, rfl, k9, k10, k11, k12, hW⟩ := hI
              obtain rfl := k9.out (hall 9 (by decide))
              obtain rfl := k10.out (hall 10 (by decide))
              obtain rfl := k11.out (hall 11 (by decide))
              obtain rfl := k12.out (hall 12 (by decide))
              clear k9 k10 k11 k12 hall L
              -- operation 13 alone
              refine from_one' hTab 13 (by kernel_rfl) ?_
              have HW := Lib.hid hW
              clear hW
              refine wpOp_step rfl fun K hK => ?_
              go_simp
              refine hK _ _ ?_
              clear hK K
              have hW := HW.out
              clear HW
              -- operation 14 alone
              refine from_one' hTab 14 (by kernel_rfl) ?_
              have HW := Lib.hid hW
              clear hW
              refine wpOp_step rfl fun K hK => ?_
              go_simp
              refine hK _ _ ?_
              clear hK K
              have hW := HW.out
              clear HW
              -- operation 15 alone
              refine from_one' hTab 15 (by kernel_rfl) ?_
              have HW := Lib.hid hW
              clear hW
              refine wpOp_step rfl fun K hK => ?_
              go_simp
              refine hK _ _ ?_
              clear hK K
              have hW := HW.out
              clear HW
              -- operations 16 to 17
              refine from_block' hTab 16 18 (by decide) (by kernel_rfl)
                (fun L a' u => ∃ v89 v90 : Value, a' = ⟨#[Value.slice A n c, Value.slice A0 n0 c0, Value.slice A1 n1 c1, Value.slice A2 n2 c2, Value.slice A3 n3 c3, Value.slice A4 n4 c4, undef, undef, undef, undef, undef, undef, u12, .pointer (some ⟨w2.heap.size, 0, none⟩), .slice (some ⟨gs, os, none⟩) l.length c14, u15, u16, .slice (some ⟨g17, o17, none⟩) l.length c17, .int .i64 ↑j, .pointer (some ⟨wr.heap.size, 0, none⟩), .slice (some ⟨g20, o20, none⟩) 1 c20, Value.slice A n c, .agg #[.int .i64 a, .int .i64 b, .int .i64 x, .int .i64 d], Value.slice A0 n0 c0, Value.slice A1 n1 c1, Value.slice A2 n2 c2, Value.slice A3 n3 c3, Value.slice A4 n4 c4, .slice (some ⟨gs, os, none⟩) l.length c14, .agg #[.int .i64 a, .int .i64 b, .int .i64 x, .int .i64 d], .slice (some ⟨gs, os, none⟩) l.length c14, .bool true, .bool false, .bool false, .agg #[.int .i64 a, .int .i64 b, .int .i64 x, .int .i64 d], .bool true, .bool false, .bool false, .slice (some ⟨gs, os, none⟩) l.length c14, .int .i64 ↑l.length, .int .i64 ↑l.length, .bool false, u42, u43, u44, u45, u46, u47, u48, u49, u50, u51, u52, u53, .agg #[.int .i64 a, .int .i64 b, .int .i64 x, .int .i64 d], .slice (some ⟨gs, os, none⟩) l.length c14, .slice (some ⟨g17, o17, none⟩) l.length c17, .slice (some ⟨g17, o17, none⟩) l.length c17, .int .i64 ↑l.length, .slice (some ⟨gs, os, none⟩) l.length c14, .int .i64 ↑l.length, .bool false, .slice (some ⟨g17, o17, none⟩) l.length c17, .int .i64 ↑l.length, .int .i64 ↑j, .bool true, .int .i64 ↑j, .pointer (some ⟨g17, o17 + j * 4, none⟩), .agg #[.int .i64 p, .int .i64 q, .int .i64 s, .int .i64 t], .agg #[.int .i64 p, .int .i64 q, .int .i64 s, .int .i64 t], .agg #[.int .i64 3, .int .i64 0, .int .i64 0, .int .i64 0, .int .i64 0, .int .i64 0, .int .i64 0, .int .i64 0], .slice (some ⟨wr.heap.size + 1, 0, none⟩) 1 1, .slice (some ⟨g20, o20, none⟩) 1 c20, .agg #[.int .i64 (p), .int .i64 (q), .int .i64 (s), .int .i64 (t)], .bool true, .bool false, .bool false, .slice (some ⟨g20, o20, none⟩) 1 c20, .int .i64 1, .bool false, .bool false, .bool false, .slice (some ⟨g20, o20, none⟩) 1 c20, .pointer (some ⟨g20, o20, none⟩), .agg #[.int .i64 (p), .int .i64 (q), .int .i64 (s), .int .i64 (t)], .agg #[.int .i64 (p), .int .i64 (q), .int .i64 (s), .int .i64 (t)], .bool false, .bool false, .bool false, v89, v90, u91, u92, u93, u94, u95, u96, u97, u98, u99, u100, u101, u102, u103, u104, u105, u106, u107, u108, u109], []⟩ ∧
                  Hid (L 16 = true → v89 = .slice (some ⟨gs, os, none⟩) l.length c14) ∧ Hid (L 17 = true → v90 = .int .i64 ↑j) ∧ (At u wr.heap.size 25 [.int .i64 p, .int .i64 q, .int .i64 s, .int .i64 t] ∧ Four u g20 o20 p q s t ∧ One u gs (os + j * 8) (.int .i64 3) ∧ Four u g17 (o17 + (j - 1) * 4) p q s t ∧ Below w7.heap.size w7 u)) ?_ ?_ ?_
              · exact ⟨_, _, rfl, (Lib.hid fun h => by cases h), (Lib.hid fun h => by cases h), hW⟩
              · clear hW
                intro L a' u i hi1 hi2 hI hL hd
                obtain ⟨v89, v90, rfl, k16, k17, hW⟩ := hI
                obtain rfl | rfl := (show ∀ i : Nat, 16 ≤ i → i < 18 → (i = 16 ∨ i = 17) by omega) i hi1 hi2
                · -- operation 16
                  have HW := Lib.hid hW
                  clear hW hL hd hi1 hi2
                  refine wpOp_step rfl fun K hK => ?_
                  go_simp
                  refine hK _ _ ⟨_, _, rfl, (Lib.hid fun _ => rfl), k17, HW.out⟩
                · -- operation 17
                  have HW := Lib.hid hW
                  clear hW hL hd hi1 hi2
                  refine wpOp_step rfl fun K hK => ?_
                  go_simp
                  refine hK _ _ ⟨_, _, rfl, k16, (Lib.hid fun _ => rfl), HW.out⟩
              clear hW
              clear u
              intro L a' u hI hall
              obtain ⟨v89, v90, rfl, k16, k17, hW⟩ := hI
              obtain rfl := k16.out (hall 16 (by decide))
              obtain rfl := k17.out (hall 17 (by decide))
              clear k16 k17 hall L
              -- operation 18 alone
              refine from_one' hTab 18 (by kernel_rfl) ?_
              have HW := Lib.hid hW
              clear hW
              refine wpOp_step rfl fun K hK => ?_
              go_simp
              refine hK _ _ ?_
              clear hK K
              have hW := HW.out
              clear HW
              -- operation 19 alone
              refine from_one' hTab 19 (by kernel_rfl) ?_
              have HW := Lib.hid hW
              clear hW
              refine wpOp_step rfl fun K hK => ?_
              go_simp
              refine hK _ _ ?_
              clear hK K
              have hW := HW.out
              clear HW
              -- operation 20 alone
              refine from_one' hTab 20 (by kernel_rfl) ?_
              have c0 := hW.2.2.1.2
              have HW := Lib.hid hW
              clear hW
              refine wpOp_step rfl fun K hK => ?_
              go_simp
              refine hK _ _ ?_
              clear hK K c0
              have hW := HW.out
              clear HW
              -- operation 21 alone
              refine from_one' hTab 21 (by kernel_rfl) ?_
              have HW := Lib.hid hW
              clear hW
              refine wpOp_step rfl fun K hK => ?_
              go_simp
              refine hK _ _ ?_
              clear hK K
              have hW := HW.out
              clear HW
              -- operation 22 alone
              refine from_one' hTab 22 (by kernel_rfl) ?_
              have HW := Lib.hid hW
              clear hW
              refine wpOp_step rfl fun K hK => ?_
              go_simp
              refine hK _ _ ?_
              clear hK K
              have hW := HW.out
              clear HW
              -- operation 23 alone
              refine from_one' hTab 23 (by kernel_rfl) ?_
              have HW := Lib.hid hW
              clear hW
              refine wpOp_step rfl fun K hK => ?_
              go_simp
              refine hK _ _ ?_
              clear hK K
              have hW := HW.out
              clear HW
              -- operation 24 alone
              refine from_one' hTab 24 (by kernel_rfl) ?_
              have HW := Lib.hid hW
              clear hW
              refine wpOp_step rfl fun K hK => ?_
              go_simp
              refine hK _ _ ?_
              clear hK K
              have hW := HW.out
              clear HW
              -- operation 25 alone
              refine from_one' hTab 25 (by kernel_rfl) ?_
              have HW := Lib.hid hW
              clear hW
              refine wpOp_step rfl fun K hK => ?_
              go_simp
              refine hK _ _ ?_
              clear hK K
              have hW := HW.out
              clear HW
              -- operation 26 alone
              refine from_one' hTab 26 (by kernel_rfl) ?_
              have HW := Lib.hid hW
              clear hW
              refine wpOp_step rfl fun K hK => ?_
              go_simp
              refine hK _ _ ?_
              clear hK K
              have hW := HW.out
              clear HW
              -- operations 27 to 32
              refine from_block' hTab 27 33 (by decide) (by kernel_rfl)
                (fun L a' u => ∃ v100 v101 v102 v103 v104 v105 : Value, a' = ⟨#[Value.slice A n c, Value.slice A0 n0 c0, Value.slice A1 n1 c1, Value.slice A2 n2 c2, Value.slice A3 n3 c3, Value.slice A4 n4 c4, undef, undef, undef, undef, undef, undef, u12, .pointer (some ⟨w2.heap.size, 0, none⟩), .slice (some ⟨gs, os, none⟩) l.length c14, u15, u16, .slice (some ⟨g17, o17, none⟩) l.length c17, .int .i64 ↑j, .pointer (some ⟨wr.heap.size, 0, none⟩), .slice (some ⟨g20, o20, none⟩) 1 c20, Value.slice A n c, .agg #[.int .i64 a, .int .i64 b, .int .i64 x, .int .i64 d], Value.slice A0 n0 c0, Value.slice A1 n1 c1, Value.slice A2 n2 c2, Value.slice A3 n3 c3, Value.slice A4 n4 c4, .slice (some ⟨gs, os, none⟩) l.length c14, .agg #[.int .i64 a, .int .i64 b, .int .i64 x, .int .i64 d], .slice (some ⟨gs, os, none⟩) l.length c14, .bool true, .bool false, .bool false, .agg #[.int .i64 a, .int .i64 b, .int .i64 x, .int .i64 d], .bool true, .bool false, .bool false, .slice (some ⟨gs, os, none⟩) l.length c14, .int .i64 ↑l.length, .int .i64 ↑l.length, .bool false, u42, u43, u44, u45, u46, u47, u48, u49, u50, u51, u52, u53, .agg #[.int .i64 a, .int .i64 b, .int .i64 x, .int .i64 d], .slice (some ⟨gs, os, none⟩) l.length c14, .slice (some ⟨g17, o17, none⟩) l.length c17, .slice (some ⟨g17, o17, none⟩) l.length c17, .int .i64 ↑l.length, .slice (some ⟨gs, os, none⟩) l.length c14, .int .i64 ↑l.length, .bool false, .slice (some ⟨g17, o17, none⟩) l.length c17, .int .i64 ↑l.length, .int .i64 ↑j, .bool true, .int .i64 ↑j, .pointer (some ⟨g17, o17 + j * 4, none⟩), .agg #[.int .i64 p, .int .i64 q, .int .i64 s, .int .i64 t], .agg #[.int .i64 p, .int .i64 q, .int .i64 s, .int .i64 t], .agg #[.int .i64 3, .int .i64 0, .int .i64 0, .int .i64 0, .int .i64 0, .int .i64 0, .int .i64 0, .int .i64 0], .slice (some ⟨wr.heap.size + 1, 0, none⟩) 1 1, .slice (some ⟨g20, o20, none⟩) 1 c20, .agg #[.int .i64 (p), .int .i64 (q), .int .i64 (s), .int .i64 (t)], .bool true, .bool false, .bool false, .slice (some ⟨g20, o20, none⟩) 1 c20, .int .i64 1, .bool false, .bool false, .bool false, .slice (some ⟨g20, o20, none⟩) 1 c20, .pointer (some ⟨g20, o20, none⟩), .agg #[.int .i64 (p), .int .i64 (q), .int .i64 (s), .int .i64 (t)], .agg #[.int .i64 (p), .int .i64 (q), .int .i64 (s), .int .i64 (t)], .bool false, .bool false, .bool false, .slice (some ⟨gs, os, none⟩) l.length c14, .int .i64 ↑j, .pointer (some ⟨gs, os + j * 8, none⟩), .pointer (some ⟨gs, os + j * 8, none⟩), .int .i64 (3), .bool true, .bool true, .int .i64 ↑j, .bool true, .bool true, .bool true, v100, v101, v102, v103, v104, v105, u106, u107, u108, u109], []⟩ ∧
                  Hid (L 27 = true → v100 = .slice (some ⟨g17, o17, none⟩) l.length c17) ∧ Hid (L 28 = true → v101 = .int .i64 ↑j) ∧ Hid (L 29 = true → v102 = .int .i64 (↑j - 1)) ∧ Hid (L 30 = true → v103 = .pointer (some ⟨g17, o17 + (j - 1) * 4, none⟩)) ∧ Hid (L 31 = true → v104 = .agg #[.int .i64 (p), .int .i64 (q), .int .i64 (s), .int .i64 (t)]) ∧ Hid (L 32 = true → v105 = .agg #[.int .i64 (p), .int .i64 (q), .int .i64 (s), .int .i64 (t)]) ∧ (At u wr.heap.size 25 [.int .i64 p, .int .i64 q, .int .i64 s, .int .i64 t] ∧ Four u g20 o20 p q s t ∧ One u gs (os + j * 8) (.int .i64 3) ∧ Four u g17 (o17 + (j - 1) * 4) p q s t ∧ Below w7.heap.size w7 u)) ?_ ?_ ?_
              · exact ⟨_, _, _, _, _, _, rfl, (Lib.hid fun h => by cases h), (Lib.hid fun h => by cases h), (Lib.hid fun h => by cases h), (Lib.hid fun h => by cases h), (Lib.hid fun h => by cases h), (Lib.hid fun h => by cases h), hW⟩
              · clear hW
                intro L a' u i hi1 hi2 hI hL hd
                obtain ⟨v100, v101, v102, v103, v104, v105, rfl, k27, k28, k29, k30, k31, k32, hW⟩ := hI
                obtain rfl | rfl | rfl | rfl | rfl | rfl := (show ∀ i : Nat, 27 ≤ i → i < 33 → (i = 27 ∨ i = 28 ∨ i = 29 ∨ i = 30 ∨ i = 31 ∨ i = 32) by omega) i hi1 hi2
                · -- operation 27
                  have HW := Lib.hid hW
                  clear hW hL hd hi1 hi2
                  refine wpOp_step rfl fun K hK => ?_
                  go_simp
                  refine hK _ _ ⟨_, _, _, _, _, _, rfl, (Lib.hid fun _ => rfl), k28, k29, k30, k31, k32, HW.out⟩
                · -- operation 28
                  have HW := Lib.hid hW
                  clear hW hL hd hi1 hi2
                  refine wpOp_step rfl fun K hK => ?_
                  go_simp
                  refine hK _ _ ⟨_, _, _, _, _, _, rfl, k27, (Lib.hid fun _ => rfl), k29, k30, k31, k32, HW.out⟩
                · -- operation 29
                  obtain rfl := k28.out (hd 28 (by decide))
                  have HW := Lib.hid hW
                  clear hW hL hd hi1 hi2
                  refine wpOp_step rfl fun K hK => ?_
                  go_simp
                  refine hK _ _ ⟨_, _, _, _, _, _, rfl, k27, k28, (Lib.hid fun _ => rfl), k30, k31, k32, HW.out⟩
                · -- operation 30
                  obtain rfl := k27.out (hd 27 (by decide))
                  obtain rfl := k29.out (hd 29 (by decide))
                  have HW := Lib.hid hW
                  clear hW hL hd hi1 hi2
                  refine wpOp_step rfl fun K hK => ?_
                  go_simp
                  refine hK _ _ ⟨_, _, _, _, _, _, rfl, k27, k28, k29, (Lib.hid fun _ => rfl), k31, k32, HW.out⟩
                · -- operation 31
                  obtain rfl := k30.out (hd 30 (by decide))
                  obtain ⟨c0, c1, c2, c3⟩ := hW.2.2.2.1.2
                  have HW := Lib.hid hW
                  clear hW hL hd hi1 hi2
                  refine wpOp_step rfl fun K hK => ?_
                  go_simp
                  refine hK _ _ ⟨_, _, _, _, _, _, rfl, k27, k28, k29, k30, (Lib.hid fun _ => rfl), k32, HW.out⟩
                · -- operation 32
                  obtain ⟨c0, c1, c2, c3⟩ := hW.1.four.1
                  have HW := Lib.hid hW
                  clear hW hL hd hi1 hi2
                  refine wpOp_step rfl fun K hK => ?_
                  go_simp
                  refine hK _ _ ⟨_, _, _, _, _, _, rfl, k27, k28, k29, k30, k31, (Lib.hid fun _ => rfl), HW.out⟩
              clear hW
              clear u
              intro L a' u hI hall
              obtain ⟨v100, v101, v102, v103, v104, v105, rfl, k27, k28, k29, k30, k31, k32, hW⟩ := hI
              obtain rfl := k27.out (hall 27 (by decide))
              obtain rfl := k28.out (hall 28 (by decide))
              obtain rfl := k29.out (hall 29 (by decide))
              obtain rfl := k30.out (hall 30 (by decide))
              obtain rfl := k31.out (hall 31 (by decide))
              obtain rfl := k32.out (hall 32 (by decide))
              clear k27 k28 k29 k30 k31 k32 hall L
              -- operation 33 alone
              refine from_one' hTab 33 (by kernel_rfl) ?_
              have HW := Lib.hid hW
              clear hW
              refine wpOp_step rfl fun K hK => ?_
              go_simp
              refine hK _ _ ?_
              clear hK K
              have hW := HW.out
              clear HW
              -- operation 34 alone
              refine from_one' hTab 34 (by kernel_rfl) ?_
              have HW := Lib.hid hW
              clear hW
              refine wpOp_step rfl fun K hK => ?_
              go_simp
              refine hK _ _ ?_
              clear hK K
              have hW := HW.out
              clear HW
              -- operation 35 alone
              refine from_one' hTab 35 (by kernel_rfl) ?_
              have HW := Lib.hid hW
              clear hW
              refine wpOp_step rfl fun K hK => ?_
              go_simp
              refine hK _ _ ?_
              clear hK K
              have hW := HW.out
              clear HW
              refine from_end' hTab 36 (by kernel_rfl) ?_
              clear hTab
              have HW := Lib.hid hW
              clear hW
              go_wp2
              go_roundw
              case rel => exact ⟨j + 1, by omega, by go_num, HB7.out.trans (HW.out.2.2.2.2.mono HB7.out.size)⟩
              case measure => simp [intOf]; omega
            · have d1 : decide (0 < j) = false := decide_eq_false h0
              have d2 : decide ((0 : Int) < j) = false := decide_eq_false (by omega)
              have HV := Lib.hid hV
              clear hV
              go_wp2_with fail
              refine from_table tab_canon17f (by kernel_rfl) (by kernel_rfl) (by kernel_rfl) (by kernel_rfl) fun hTab => ?_
              refine from_gen (fun u => At u wr.heap.size 25 [.int .i64 p, .int .i64 q, .int .i64 s, .int .i64 t] ∧ Four u g20 o20 p q s t ∧ One u gs (os + j * 8) (.int .i64 3) ∧ Below w7.heap.size w7 u) ?_ ?_
              · exact ⟨HV.out.1.drew, HV.out.2.1, HV.out.2.2.1, HV.out.2.2.2.drew⟩
              intro u hW
              -- operation 0 alone
              refine from_one' hTab 0 (by kernel_rfl) ?_
              obtain ⟨c0, c1, c2, c3⟩ := hW.1.four.1
              have HW := Lib.hid hW
              clear hW
              refine wpOp_step rfl fun K hK => ?_
              go_simp
              refine hK _ _ ?_
              clear hK K c0 c1 c2 c3
              have hW := HW.out
              clear HW
              -- operation 1 alone
              refine from_one' hTab 1 (by kernel_rfl) ?_
              have HW := Lib.hid hW
              clear hW
              refine wpOp_step rfl fun K hK => ?_
              go_simp
              go_at_call 18
              refine (HWFR.out _).mono ?_
              rintro _ w' ⟨rfl, hb⟩
              refine hK _ _ ?_
              clear hK K
              refine from_gen (fun u => (At u wr.heap.size 25 [.int .i64 p, .int .i64 q, .int .i64 s, .int .i64 t] ∧ Four u g20 o20 p q s t ∧ One u gs (os + j * 8) (.int .i64 3) ∧ Below w7.heap.size w7 u)) ⟨HW.out.1.by hb, HW.out.2.1.by hb, HW.out.2.2.1.by hb, HW.out.2.2.2.trans (hb.mono HW.out.2.2.2.size)⟩ ?_
              clear hb HW
              intro u hW
              -- operation 2 alone
              refine from_one' hTab 2 (by kernel_rfl) ?_
              have HW := Lib.hid hW
              clear hW
              refine wpOp_step rfl fun K hK => ?_
              go_simp
              refine hK _ _ ?_
              clear hK K
              have hW := HW.out
              clear HW
              -- operation 3 alone
              refine from_one' hTab 3 (by kernel_rfl) ?_
              have HW := Lib.hid hW
              clear hW
              refine wpOp_step rfl fun K hK => ?_
              go_simp
              refine hK _ _ ?_
              clear hK K
              have hW := HW.out
              clear HW
              -- operation 4 alone
              refine from_one' hTab 4 (by kernel_rfl) ?_
              have HW := Lib.hid hW
              clear hW
              refine wpOp_step rfl fun K hK => ?_
              go_simp
              refine hK _ _ ?_
              clear hK K
              have hW := HW.out
              clear HW
              -- operation 5 alone
              refine from_one' hTab 5 (by kernel_rfl) ?_
              have HW := Lib.hid hW
              clear hW
              refine wpOp_step rfl fun K hK => ?_
              go_simp
              refine hK _ _ ?_
              clear hK K
              have hW := HW.out
              clear HW
              -- operation 6 alone
              refine from_one' hTab 6 (by kernel_rfl) ?_
              have HW := Lib.hid hW
              clear hW
              refine wpOp_step rfl fun K hK => ?_
              go_simp
              refine hK _ _ ?_
              clear hK K
              have hW := HW.out
              clear HW
              -- operation 7 alone
              refine from_one' hTab 7 (by kernel_rfl) ?_
              have HW := Lib.hid hW
              clear hW
              refine wpOp_step rfl fun K hK => ?_
              go_simp
              refine hK _ _ ?_
              clear hK K
              have hW := HW.out
              clear HW
              -- operation 8 alone
              refine from_one' hTab 8 (by kernel_rfl) ?_
              have HW := Lib.hid hW
              clear hW
              refine wpOp_step rfl fun K hK => ?_
              go_simp
              refine hK _ _ ?_
              clear hK K
              have hW := HW.out
              clear HW
              -- operations 9 to 12
              refine from_block' hTab 9 13 (by decide) (by kernel_rfl)
                (fun L a' u => ∃ v82 v83 v84 v85 : Value, a' = ⟨#[Value.slice A n c, Value.slice A0 n0 c0, Value.slice A1 n1 c1, Value.slice A2 n2 c2, Value.slice A3 n3 c3, Value.slice A4 n4 c4, undef, undef, undef, undef, undef, undef, u12, .pointer (some ⟨w2.heap.size, 0, none⟩), .slice (some ⟨gs, os, none⟩) l.length c14, u15, u16, .slice (some ⟨g17, o17, none⟩) l.length c17, .int .i64 ↑j, .pointer (some ⟨wr.heap.size, 0, none⟩), .slice (some ⟨g20, o20, none⟩) 1 c20, Value.slice A n c, .agg #[.int .i64 a, .int .i64 b, .int .i64 x, .int .i64 d], Value.slice A0 n0 c0, Value.slice A1 n1 c1, Value.slice A2 n2 c2, Value.slice A3 n3 c3, Value.slice A4 n4 c4, .slice (some ⟨gs, os, none⟩) l.length c14, .agg #[.int .i64 a, .int .i64 b, .int .i64 x, .int .i64 d], .slice (some ⟨gs, os, none⟩) l.length c14, .bool true, .bool false, .bool false, .agg #[.int .i64 a, .int .i64 b, .int .i64 x, .int .i64 d], .bool true, .bool false, .bool false, .slice (some ⟨gs, os, none⟩) l.length c14, .int .i64 ↑l.length, .int .i64 ↑l.length, .bool false, u42, u43, u44, u45, u46, u47, u48, u49, u50, u51, u52, u53, .agg #[.int .i64 a, .int .i64 b, .int .i64 x, .int .i64 d], .slice (some ⟨gs, os, none⟩) l.length c14, .slice (some ⟨g17, o17, none⟩) l.length c17, .slice (some ⟨g17, o17, none⟩) l.length c17, .int .i64 ↑l.length, .slice (some ⟨gs, os, none⟩) l.length c14, .int .i64 ↑l.length, .bool false, .slice (some ⟨g17, o17, none⟩) l.length c17, .int .i64 ↑l.length, .int .i64 ↑j, .bool true, .int .i64 ↑j, .pointer (some ⟨g17, o17 + j * 4, none⟩), .agg #[.int .i64 p, .int .i64 q, .int .i64 s, .int .i64 t], .agg #[.int .i64 p, .int .i64 q, .int .i64 s, .int .i64 t], .agg #[.int .i64 3, .int .i64 0, .int .i64 0, .int .i64 0, .int .i64 0, .int .i64 0, .int .i64 0, .int .i64 0], .slice (some ⟨wr.heap.size + 1, 0, none⟩) 1 1, .slice (some ⟨g20, o20, none⟩) 1 c20, .agg #[.int .i64 (p), .int .i64 (q), .int .i64 (s), .int .i64 (t)], .bool true, .bool false, .bool false, .slice (some ⟨g20, o20, none⟩) 1 c20, .int .i64 1, .bool false, .bool false, .bool false, v82, v83, v84, v85, u86, u87, u88, u89, u90, u91, u92, u93, u94, u95, u96, u97, u98, u99, u100, u101, u102, u103, u104, u105, u106, u107, u108, u109], []⟩ ∧
                  Hid (L 9 = true → v82 = .slice (some ⟨g20, o20, none⟩) 1 c20) ∧ Hid (L 10 = true → v83 = .pointer (some ⟨g20, o20, none⟩)) ∧ Hid (L 11 = true → v84 = .agg #[.int .i64 (p), .int .i64 (q), .int .i64 (s), .int .i64 (t)]) ∧ Hid (L 12 = true → v85 = .agg #[.int .i64 (p), .int .i64 (q), .int .i64 (s), .int .i64 (t)]) ∧ (At u wr.heap.size 25 [.int .i64 p, .int .i64 q, .int .i64 s, .int .i64 t] ∧ Four u g20 o20 p q s t ∧ One u gs (os + j * 8) (.int .i64 3) ∧ Below w7.heap.size w7 u)) ?_ ?_ ?_
              · exact ⟨_, _, _, _, rfl, (Lib.hid fun h => by cases h), (Lib.hid fun h => by cases h), (Lib.hid fun h => by cases h), (Lib.hid fun h => by cases h), hW⟩
              · clear hW
                intro L a' u i hi1 hi2 hI hL hd
                obtain ⟨v82, v83, v84, v85, rfl, k9, k10, k11, k12, hW⟩ := hI
                obtain rfl | rfl | rfl | rfl := (show ∀ i : Nat, 9 ≤ i → i < 13 → (i = 9 ∨ i = 10 ∨ i = 11 ∨ i = 12) by omega) i hi1 hi2
                · -- operation 9
                  have HW := Lib.hid hW
                  clear hW hL hd hi1 hi2
                  refine wpOp_step rfl fun K hK => ?_
                  go_simp
                  refine hK _ _ ⟨_, _, _, _, rfl, (Lib.hid fun _ => rfl), k10, k11, k12, HW.out⟩
                · -- operation 10
                  obtain rfl := k9.out (hd 9 (by decide))
                  have HW := Lib.hid hW
                  clear hW hL hd hi1 hi2
                  refine wpOp_step rfl fun K hK => ?_
                  go_simp
                  refine hK _ _ ⟨_, _, _, _, rfl, k9, (Lib.hid fun _ => rfl), k11, k12, HW.out⟩
                · -- operation 11
                  obtain rfl := k10.out (hd 10 (by decide))
                  obtain ⟨c0, c1, c2, c3⟩ := hW.2.1.2
                  have HW := Lib.hid hW
                  clear hW hL hd hi1 hi2
                  refine wpOp_step rfl fun K hK => ?_
                  go_simp
                  refine hK _ _ ⟨_, _, _, _, rfl, k9, k10, (Lib.hid fun _ => rfl), k12, HW.out⟩
                · -- operation 12
                  obtain ⟨c0, c1, c2, c3⟩ := hW.1.four.1
                  have HW := Lib.hid hW
                  clear hW hL hd hi1 hi2
                  refine wpOp_step rfl fun K hK => ?_
                  go_simp
                  refine hK _ _ ⟨_, _, _, _, rfl, k9, k10, k11, (Lib.hid fun _ => rfl), HW.out⟩
              clear hW
              clear u
              intro L a' u hI hall
              obtain ⟨v82, v83, v84, v85, rfl, k9, k10, k11, k12, hW⟩ := hI
              obtain rfl := k9.out (hall 9 (by decide))
              obtain rfl := k10.out (hall 10 (by decide))
              obtain rfl := k11.out (hall 11 (by decide))
              obtain rfl := k12.out (hall 12 (by decide))
              clear k9 k10 k11 k12 hall L
              -- operation 13 alone
              refine from_one' hTab 13 (by kernel_rfl) ?_
              have HW := Lib.hid hW
              clear hW
              refine wpOp_step rfl fun K hK => ?_
              go_simp
              refine hK _ _ ?_
              clear hK K
              have hW := HW.out
              clear HW
              -- operation 14 alone
              refine from_one' hTab 14 (by kernel_rfl) ?_
              have HW := Lib.hid hW
              clear hW
              refine wpOp_step rfl fun K hK => ?_
              go_simp
              refine hK _ _ ?_
              clear hK K
              have hW := HW.out
              clear HW
              -- operation 15 alone
              refine from_one' hTab 15 (by kernel_rfl) ?_
              have HW := Lib.hid hW
              clear hW
              refine wpOp_step rfl fun K hK => ?_
              go_simp
              refine hK _ _ ?_
              clear hK K
              have hW := HW.out
              clear HW
              -- operations 16 to 17
              refine from_block' hTab 16 18 (by decide) (by kernel_rfl)
                (fun L a' u => ∃ v89 v90 : Value, a' = ⟨#[Value.slice A n c, Value.slice A0 n0 c0, Value.slice A1 n1 c1, Value.slice A2 n2 c2, Value.slice A3 n3 c3, Value.slice A4 n4 c4, undef, undef, undef, undef, undef, undef, u12, .pointer (some ⟨w2.heap.size, 0, none⟩), .slice (some ⟨gs, os, none⟩) l.length c14, u15, u16, .slice (some ⟨g17, o17, none⟩) l.length c17, .int .i64 ↑j, .pointer (some ⟨wr.heap.size, 0, none⟩), .slice (some ⟨g20, o20, none⟩) 1 c20, Value.slice A n c, .agg #[.int .i64 a, .int .i64 b, .int .i64 x, .int .i64 d], Value.slice A0 n0 c0, Value.slice A1 n1 c1, Value.slice A2 n2 c2, Value.slice A3 n3 c3, Value.slice A4 n4 c4, .slice (some ⟨gs, os, none⟩) l.length c14, .agg #[.int .i64 a, .int .i64 b, .int .i64 x, .int .i64 d], .slice (some ⟨gs, os, none⟩) l.length c14, .bool true, .bool false, .bool false, .agg #[.int .i64 a, .int .i64 b, .int .i64 x, .int .i64 d], .bool true, .bool false, .bool false, .slice (some ⟨gs, os, none⟩) l.length c14, .int .i64 ↑l.length, .int .i64 ↑l.length, .bool false, u42, u43, u44, u45, u46, u47, u48, u49, u50, u51, u52, u53, .agg #[.int .i64 a, .int .i64 b, .int .i64 x, .int .i64 d], .slice (some ⟨gs, os, none⟩) l.length c14, .slice (some ⟨g17, o17, none⟩) l.length c17, .slice (some ⟨g17, o17, none⟩) l.length c17, .int .i64 ↑l.length, .slice (some ⟨gs, os, none⟩) l.length c14, .int .i64 ↑l.length, .bool false, .slice (some ⟨g17, o17, none⟩) l.length c17, .int .i64 ↑l.length, .int .i64 ↑j, .bool true, .int .i64 ↑j, .pointer (some ⟨g17, o17 + j * 4, none⟩), .agg #[.int .i64 p, .int .i64 q, .int .i64 s, .int .i64 t], .agg #[.int .i64 p, .int .i64 q, .int .i64 s, .int .i64 t], .agg #[.int .i64 3, .int .i64 0, .int .i64 0, .int .i64 0, .int .i64 0, .int .i64 0, .int .i64 0, .int .i64 0], .slice (some ⟨wr.heap.size + 1, 0, none⟩) 1 1, .slice (some ⟨g20, o20, none⟩) 1 c20, .agg #[.int .i64 (p), .int .i64 (q), .int .i64 (s), .int .i64 (t)], .bool true, .bool false, .bool false, .slice (some ⟨g20, o20, none⟩) 1 c20, .int .i64 1, .bool false, .bool false, .bool false, .slice (some ⟨g20, o20, none⟩) 1 c20, .pointer (some ⟨g20, o20, none⟩), .agg #[.int .i64 (p), .int .i64 (q), .int .i64 (s), .int .i64 (t)], .agg #[.int .i64 (p), .int .i64 (q), .int .i64 (s), .int .i64 (t)], .bool false, .bool false, .bool false, v89, v90, u91, u92, u93, u94, u95, u96, u97, u98, u99, u100, u101, u102, u103, u104, u105, u106, u107, u108, u109], []⟩ ∧
                  Hid (L 16 = true → v89 = .slice (some ⟨gs, os, none⟩) l.length c14) ∧ Hid (L 17 = true → v90 = .int .i64 ↑j) ∧ (At u wr.heap.size 25 [.int .i64 p, .int .i64 q, .int .i64 s, .int .i64 t] ∧ Four u g20 o20 p q s t ∧ One u gs (os + j * 8) (.int .i64 3) ∧ Below w7.heap.size w7 u)) ?_ ?_ ?_
              · exact ⟨_, _, rfl, (Lib.hid fun h => by cases h), (Lib.hid fun h => by cases h), hW⟩
              · clear hW
                intro L a' u i hi1 hi2 hI hL hd
                obtain ⟨v89, v90, rfl, k16, k17, hW⟩ := hI
                obtain rfl | rfl := (show ∀ i : Nat, 16 ≤ i → i < 18 → (i = 16 ∨ i = 17) by omega) i hi1 hi2
                · -- operation 16
                  have HW := Lib.hid hW
                  clear hW hL hd hi1 hi2
                  refine wpOp_step rfl fun K hK => ?_
                  go_simp
                  refine hK _ _ ⟨_, _, rfl, (Lib.hid fun _ => rfl), k17, HW.out⟩
                · -- operation 17
                  have HW := Lib.hid hW
                  clear hW hL hd hi1 hi2
                  refine wpOp_step rfl fun K hK => ?_
                  go_simp
                  refine hK _ _ ⟨_, _, rfl, k16, (Lib.hid fun _ => rfl), HW.out⟩
              clear hW
              clear u
              intro L a' u hI hall
              obtain ⟨v89, v90, rfl, k16, k17, hW⟩ := hI
              obtain rfl := k16.out (hall 16 (by decide))
              obtain rfl := k17.out (hall 17 (by decide))
              clear k16 k17 hall L
              -- operation 18 alone
              refine from_one' hTab 18 (by kernel_rfl) ?_
              have HW := Lib.hid hW
              clear hW
              refine wpOp_step rfl fun K hK => ?_
              go_simp
              refine hK _ _ ?_
              clear hK K
              have hW := HW.out
              clear HW
              -- operation 19 alone
              refine from_one' hTab 19 (by kernel_rfl) ?_
              have HW := Lib.hid hW
              clear hW
              refine wpOp_step rfl fun K hK => ?_
              go_simp
              refine hK _ _ ?_
              clear hK K
              have hW := HW.out
              clear HW
              -- operation 20 alone
              refine from_one' hTab 20 (by kernel_rfl) ?_
              have c0 := hW.2.2.1.2
              have HW := Lib.hid hW
              clear hW
              refine wpOp_step rfl fun K hK => ?_
              go_simp
              refine hK _ _ ?_
              clear hK K c0
              have hW := HW.out
              clear HW
              -- operation 21 alone
              refine from_one' hTab 21 (by kernel_rfl) ?_
              have HW := Lib.hid hW
              clear hW
              refine wpOp_step rfl fun K hK => ?_
              go_simp
              refine hK _ _ ?_
              clear hK K
              have hW := HW.out
              clear HW
              -- operation 22 alone
              refine from_one' hTab 22 (by kernel_rfl) ?_
              have HW := Lib.hid hW
              clear hW
              refine wpOp_step rfl fun K hK => ?_
              go_simp
              refine hK _ _ ?_
              clear hK K
              have hW := HW.out
              clear HW
              -- operation 23 alone
              refine from_one' hTab 23 (by kernel_rfl) ?_
              have HW := Lib.hid hW
              clear hW
              refine wpOp_step rfl fun K hK => ?_
              go_simp
              refine hK _ _ ?_
              clear hK K
              have hW := HW.out
              clear HW
              -- operation 24 alone
              refine from_one' hTab 24 (by kernel_rfl) ?_
              have HW := Lib.hid hW
              clear hW
              refine wpOp_step rfl fun K hK => ?_
              go_simp
              refine hK _ _ ?_
              clear hK K
              have hW := HW.out
              clear HW
              -- operation 25 alone
              refine from_one' hTab 25 (by kernel_rfl) ?_
              have HW := Lib.hid hW
              clear hW
              refine wpOp_step rfl fun K hK => ?_
              go_simp
              refine hK _ _ ?_
              clear hK K
              have hW := HW.out
              clear HW
              -- operation 26 alone
              refine from_one' hTab 26 (by kernel_rfl) ?_
              have HW := Lib.hid hW
              clear hW
              refine wpOp_step rfl fun K hK => ?_
              go_simp
              refine hK _ _ ?_
              clear hK K
              have hW := HW.out
              clear HW
              -- operations 27 to 32
              refine from_block' hTab 27 33 (by decide) (by kernel_rfl)
                (fun L a' u => ∃ v100 v101 v102 v103 v104 v105 : Value, a' = ⟨#[Value.slice A n c, Value.slice A0 n0 c0, Value.slice A1 n1 c1, Value.slice A2 n2 c2, Value.slice A3 n3 c3, Value.slice A4 n4 c4, undef, undef, undef, undef, undef, undef, u12, .pointer (some ⟨w2.heap.size, 0, none⟩), .slice (some ⟨gs, os, none⟩) l.length c14, u15, u16, .slice (some ⟨g17, o17, none⟩) l.length c17, .int .i64 ↑j, .pointer (some ⟨wr.heap.size, 0, none⟩), .slice (some ⟨g20, o20, none⟩) 1 c20, Value.slice A n c, .agg #[.int .i64 a, .int .i64 b, .int .i64 x, .int .i64 d], Value.slice A0 n0 c0, Value.slice A1 n1 c1, Value.slice A2 n2 c2, Value.slice A3 n3 c3, Value.slice A4 n4 c4, .slice (some ⟨gs, os, none⟩) l.length c14, .agg #[.int .i64 a, .int .i64 b, .int .i64 x, .int .i64 d], .slice (some ⟨gs, os, none⟩) l.length c14, .bool true, .bool false, .bool false, .agg #[.int .i64 a, .int .i64 b, .int .i64 x, .int .i64 d], .bool true, .bool false, .bool false, .slice (some ⟨gs, os, none⟩) l.length c14, .int .i64 ↑l.length, .int .i64 ↑l.length, .bool false, u42, u43, u44, u45, u46, u47, u48, u49, u50, u51, u52, u53, .agg #[.int .i64 a, .int .i64 b, .int .i64 x, .int .i64 d], .slice (some ⟨gs, os, none⟩) l.length c14, .slice (some ⟨g17, o17, none⟩) l.length c17, .slice (some ⟨g17, o17, none⟩) l.length c17, .int .i64 ↑l.length, .slice (some ⟨gs, os, none⟩) l.length c14, .int .i64 ↑l.length, .bool false, .slice (some ⟨g17, o17, none⟩) l.length c17, .int .i64 ↑l.length, .int .i64 ↑j, .bool true, .int .i64 ↑j, .pointer (some ⟨g17, o17 + j * 4, none⟩), .agg #[.int .i64 p, .int .i64 q, .int .i64 s, .int .i64 t], .agg #[.int .i64 p, .int .i64 q, .int .i64 s, .int .i64 t], .agg #[.int .i64 3, .int .i64 0, .int .i64 0, .int .i64 0, .int .i64 0, .int .i64 0, .int .i64 0, .int .i64 0], .slice (some ⟨wr.heap.size + 1, 0, none⟩) 1 1, .slice (some ⟨g20, o20, none⟩) 1 c20, .agg #[.int .i64 (p), .int .i64 (q), .int .i64 (s), .int .i64 (t)], .bool true, .bool false, .bool false, .slice (some ⟨g20, o20, none⟩) 1 c20, .int .i64 1, .bool false, .bool false, .bool false, .slice (some ⟨g20, o20, none⟩) 1 c20, .pointer (some ⟨g20, o20, none⟩), .agg #[.int .i64 (p), .int .i64 (q), .int .i64 (s), .int .i64 (t)], .agg #[.int .i64 (p), .int .i64 (q), .int .i64 (s), .int .i64 (t)], .bool false, .bool false, .bool false, .slice (some ⟨gs, os, none⟩) l.length c14, .int .i64 ↑j, .pointer (some ⟨gs, os + j * 8, none⟩), .pointer (some ⟨gs, os + j * 8, none⟩), .int .i64 (3), .bool true, .bool true, .int .i64 ↑j, .bool false, .bool false, .bool false, v100, v101, v102, v103, v104, v105, u106, u107, u108, u109], []⟩ ∧
                  Hid (L 27 = true → v100 = undef) ∧ Hid (L 28 = true → v101 = undef) ∧ Hid (L 29 = true → v102 = undef) ∧ Hid (L 30 = true → v103 = undef) ∧ Hid (L 31 = true → v104 = undef) ∧ Hid (L 32 = true → v105 = undef) ∧ (At u wr.heap.size 25 [.int .i64 p, .int .i64 q, .int .i64 s, .int .i64 t] ∧ Four u g20 o20 p q s t ∧ One u gs (os + j * 8) (.int .i64 3) ∧ Below w7.heap.size w7 u)) ?_ ?_ ?_
              · exact ⟨_, _, _, _, _, _, rfl, (Lib.hid fun h => by cases h), (Lib.hid fun h => by cases h), (Lib.hid fun h => by cases h), (Lib.hid fun h => by cases h), (Lib.hid fun h => by cases h), (Lib.hid fun h => by cases h), hW⟩
              · clear hW
                intro L a' u i hi1 hi2 hI hL hd
                obtain ⟨v100, v101, v102, v103, v104, v105, rfl, k27, k28, k29, k30, k31, k32, hW⟩ := hI
                obtain rfl | rfl | rfl | rfl | rfl | rfl := (show ∀ i : Nat, 27 ≤ i → i < 33 → (i = 27 ∨ i = 28 ∨ i = 29 ∨ i = 30 ∨ i = 31 ∨ i = 32) by omega) i hi1 hi2
                · -- operation 27
                  have HW := Lib.hid hW
                  clear hW hL hd hi1 hi2
                  refine wpOp_step rfl fun K hK => ?_
                  go_simp
                  refine hK _ _ ⟨_, _, _, _, _, _, rfl, (Lib.hid fun _ => rfl), k28, k29, k30, k31, k32, HW.out⟩
                · -- operation 28
                  have HW := Lib.hid hW
                  clear hW hL hd hi1 hi2
                  refine wpOp_step rfl fun K hK => ?_
                  go_simp
                  refine hK _ _ ⟨_, _, _, _, _, _, rfl, k27, (Lib.hid fun _ => rfl), k29, k30, k31, k32, HW.out⟩
                · -- operation 29
                  obtain rfl := k28.out (hd 28 (by decide))
                  have HW := Lib.hid hW
                  clear hW hL hd hi1 hi2
                  refine wpOp_step rfl fun K hK => ?_
                  go_simp
                  refine hK _ _ ⟨_, _, _, _, _, _, rfl, k27, k28, (Lib.hid fun _ => rfl), k30, k31, k32, HW.out⟩
                · -- operation 30
                  obtain rfl := k27.out (hd 27 (by decide))
                  obtain rfl := k29.out (hd 29 (by decide))
                  have HW := Lib.hid hW
                  clear hW hL hd hi1 hi2
                  refine wpOp_step rfl fun K hK => ?_
                  go_simp
                  refine hK _ _ ⟨_, _, _, _, _, _, rfl, k27, k28, k29, (Lib.hid fun _ => rfl), k31, k32, HW.out⟩
                · -- operation 31
                  obtain rfl := k30.out (hd 30 (by decide))
                  have HW := Lib.hid hW
                  clear hW hL hd hi1 hi2
                  refine wpOp_step rfl fun K hK => ?_
                  go_simp
                  refine hK _ _ ⟨_, _, _, _, _, _, rfl, k27, k28, k29, k30, (Lib.hid fun _ => rfl), k32, HW.out⟩
                · -- operation 32
                  have HW := Lib.hid hW
                  clear hW hL hd hi1 hi2
                  refine wpOp_step rfl fun K hK => ?_
                  go_simp
                  refine hK _ _ ⟨_, _, _, _, _, _, rfl, k27, k28, k29, k30, k31, (Lib.hid fun _ => rfl), HW.out⟩
              clear hW
              clear u
              intro L a' u hI hall
              obtain ⟨v100, v101, v102, v103, v104, v105, rfl, k27, k28, k29, k30, k31, k32, hW⟩ := hI
              obtain rfl := k27.out (hall 27 (by decide))
              obtain rfl := k28.out (hall 28 (by decide))
              obtain rfl := k29.out (hall 29 (by decide))
              obtain rfl := k30.out (hall 30 (by decide))
              obtain rfl := k31.out (hall 31 (by decide))
              obtain rfl := k32.out (hall 32 (by decide))
              clear k27 k28 k29 k30 k31 k32 hall L
              -- operation 33 alone
              refine from_one' hTab 33 (by kernel_rfl) ?_
              have HW := Lib.hid hW
              clear hW
              refine wpOp_step rfl fun K hK => ?_
              go_simp
              refine hK _ _ ?_
              clear hK K
              have hW := HW.out
              clear HW
              -- operation 34 alone
              refine from_one' hTab 34 (by kernel_rfl) ?_
              have HW := Lib.hid hW
              clear hW
              refine wpOp_step rfl fun K hK => ?_
              go_simp
              refine hK _ _ ?_
              clear hK K
              have hW := HW.out
              clear HW
              -- operation 35 alone
              refine from_one' hTab 35 (by kernel_rfl) ?_
              have HW := Lib.hid hW
              clear hW
              refine wpOp_step rfl fun K hK => ?_
              go_simp
              refine hK _ _ ?_
              clear hK K
              have hW := HW.out
              clear HW
              refine from_end' hTab 36 (by kernel_rfl) ?_
              clear hTab
              have HW := Lib.hid hW
              clear hW
              go_wp2
              go_roundw
              case rel => exact ⟨j + 1, by omega, by go_num, HB7.out.trans (HW.out.2.2.2.mono HB7.out.size)⟩
              case measure => simp [intOf]; omega
          · have qa : (op == 3) = false := beq_eq_false_iff_ne.2 h3
            have HV := Lib.hid hV
            clear hV
            go_wp2_with fail
            refine from_table tab_canon17f (by kernel_rfl) (by kernel_rfl) (by kernel_rfl) (by kernel_rfl) fun hTab => ?_
            refine from_gen (fun u => At u wr.heap.size 25 [.int .i64 p, .int .i64 q, .int .i64 s, .int .i64 t] ∧ Four u g20 o20 p q s t ∧ One u gs (os + j * 8) (.int .i64 op) ∧ Below w7.heap.size w7 u) ?_ ?_
            · exact ⟨HV.out.1.drew, HV.out.2.1, HV.out.2.2.1, HV.out.2.2.2.drew⟩
            intro u hW
            -- operation 0 alone
            refine from_one' hTab 0 (by kernel_rfl) ?_
            obtain ⟨c0, c1, c2, c3⟩ := hW.1.four.1
            have HW := Lib.hid hW
            clear hW
            refine wpOp_step rfl fun K hK => ?_
            go_simp
            refine hK _ _ ?_
            clear hK K c0 c1 c2 c3
            have hW := HW.out
            clear HW
            -- operation 1 alone
            refine from_one' hTab 1 (by kernel_rfl) ?_
            have HW := Lib.hid hW
            clear hW
            refine wpOp_step rfl fun K hK => ?_
            go_simp
            go_at_call 18
            refine (HWFR.out _).mono ?_
            rintro _ w' ⟨rfl, hb⟩
            refine hK _ _ ?_
            clear hK K
            refine from_gen (fun u => (At u wr.heap.size 25 [.int .i64 p, .int .i64 q, .int .i64 s, .int .i64 t] ∧ Four u g20 o20 p q s t ∧ One u gs (os + j * 8) (.int .i64 op) ∧ Below w7.heap.size w7 u)) ⟨HW.out.1.by hb, HW.out.2.1.by hb, HW.out.2.2.1.by hb, HW.out.2.2.2.trans (hb.mono HW.out.2.2.2.size)⟩ ?_
            clear hb HW
            intro u hW
            -- operation 2 alone
            refine from_one' hTab 2 (by kernel_rfl) ?_
            have HW := Lib.hid hW
            clear hW
            refine wpOp_step rfl fun K hK => ?_
            go_simp
            refine hK _ _ ?_
            clear hK K
            have hW := HW.out
            clear HW
            -- operation 3 alone
            refine from_one' hTab 3 (by kernel_rfl) ?_
            have HW := Lib.hid hW
            clear hW
            refine wpOp_step rfl fun K hK => ?_
            go_simp
            refine hK _ _ ?_
            clear hK K
            have hW := HW.out
            clear HW
            -- operation 4 alone
            refine from_one' hTab 4 (by kernel_rfl) ?_
            have HW := Lib.hid hW
            clear hW
            refine wpOp_step rfl fun K hK => ?_
            go_simp
            refine hK _ _ ?_
            clear hK K
            have hW := HW.out
            clear HW
            -- operation 5 alone
            refine from_one' hTab 5 (by kernel_rfl) ?_
            have HW := Lib.hid hW
            clear hW
            refine wpOp_step rfl fun K hK => ?_
            go_simp
            refine hK _ _ ?_
            clear hK K
            have hW := HW.out
            clear HW
            -- operation 6 alone
            refine from_one' hTab 6 (by kernel_rfl) ?_
            have HW := Lib.hid hW
            clear hW
            refine wpOp_step rfl fun K hK => ?_
            go_simp
            refine hK _ _ ?_
            clear hK K
            have hW := HW.out
            clear HW
            -- operation 7 alone
            refine from_one' hTab 7 (by kernel_rfl) ?_
            have HW := Lib.hid hW
            clear hW
            refine wpOp_step rfl fun K hK => ?_
            go_simp
            refine hK _ _ ?_
            clear hK K
            have hW := HW.out
            clear HW
            -- operation 8 alone
            refine from_one' hTab 8 (by kernel_rfl) ?_
            have HW := Lib.hid hW
            clear hW
            refine wpOp_step rfl fun K hK => ?_
            go_simp
            refine hK _ _ ?_
            clear hK K
            have hW := HW.out
            clear HW
            -- operations 9 to 12
            refine from_block' hTab 9 13 (by decide) (by kernel_rfl)
              (fun L a' u => ∃ v82 v83 v84 v85 : Value, a' = ⟨#[Value.slice A n c, Value.slice A0 n0 c0, Value.slice A1 n1 c1, Value.slice A2 n2 c2, Value.slice A3 n3 c3, Value.slice A4 n4 c4, undef, undef, undef, undef, undef, undef, u12, .pointer (some ⟨w2.heap.size, 0, none⟩), .slice (some ⟨gs, os, none⟩) l.length c14, u15, u16, .slice (some ⟨g17, o17, none⟩) l.length c17, .int .i64 ↑j, .pointer (some ⟨wr.heap.size, 0, none⟩), .slice (some ⟨g20, o20, none⟩) 1 c20, Value.slice A n c, .agg #[.int .i64 a, .int .i64 b, .int .i64 x, .int .i64 d], Value.slice A0 n0 c0, Value.slice A1 n1 c1, Value.slice A2 n2 c2, Value.slice A3 n3 c3, Value.slice A4 n4 c4, .slice (some ⟨gs, os, none⟩) l.length c14, .agg #[.int .i64 a, .int .i64 b, .int .i64 x, .int .i64 d], .slice (some ⟨gs, os, none⟩) l.length c14, .bool true, .bool false, .bool false, .agg #[.int .i64 a, .int .i64 b, .int .i64 x, .int .i64 d], .bool true, .bool false, .bool false, .slice (some ⟨gs, os, none⟩) l.length c14, .int .i64 ↑l.length, .int .i64 ↑l.length, .bool false, u42, u43, u44, u45, u46, u47, u48, u49, u50, u51, u52, u53, .agg #[.int .i64 a, .int .i64 b, .int .i64 x, .int .i64 d], .slice (some ⟨gs, os, none⟩) l.length c14, .slice (some ⟨g17, o17, none⟩) l.length c17, .slice (some ⟨g17, o17, none⟩) l.length c17, .int .i64 ↑l.length, .slice (some ⟨gs, os, none⟩) l.length c14, .int .i64 ↑l.length, .bool false, .slice (some ⟨g17, o17, none⟩) l.length c17, .int .i64 ↑l.length, .int .i64 ↑j, .bool true, .int .i64 ↑j, .pointer (some ⟨g17, o17 + j * 4, none⟩), .agg #[.int .i64 p, .int .i64 q, .int .i64 s, .int .i64 t], .agg #[.int .i64 p, .int .i64 q, .int .i64 s, .int .i64 t], .agg #[.int .i64 3, .int .i64 0, .int .i64 0, .int .i64 0, .int .i64 0, .int .i64 0, .int .i64 0, .int .i64 0], .slice (some ⟨wr.heap.size + 1, 0, none⟩) 1 1, .slice (some ⟨g20, o20, none⟩) 1 c20, .agg #[.int .i64 (p), .int .i64 (q), .int .i64 (s), .int .i64 (t)], .bool true, .bool false, .bool false, .slice (some ⟨g20, o20, none⟩) 1 c20, .int .i64 1, .bool false, .bool false, .bool false, v82, v83, v84, v85, u86, u87, u88, u89, u90, u91, u92, u93, u94, u95, u96, u97, u98, u99, u100, u101, u102, u103, u104, u105, u106, u107, u108, u109], []⟩ ∧
                Hid (L 9 = true → v82 = .slice (some ⟨g20, o20, none⟩) 1 c20) ∧ Hid (L 10 = true → v83 = .pointer (some ⟨g20, o20, none⟩)) ∧ Hid (L 11 = true → v84 = .agg #[.int .i64 (p), .int .i64 (q), .int .i64 (s), .int .i64 (t)]) ∧ Hid (L 12 = true → v85 = .agg #[.int .i64 (p), .int .i64 (q), .int .i64 (s), .int .i64 (t)]) ∧ (At u wr.heap.size 25 [.int .i64 p, .int .i64 q, .int .i64 s, .int .i64 t] ∧ Four u g20 o20 p q s t ∧ One u gs (os + j * 8) (.int .i64 op) ∧ Below w7.heap.size w7 u)) ?_ ?_ ?_
            · exact ⟨_, _, _, _, rfl, (Lib.hid fun h => by cases h), (Lib.hid fun h => by cases h), (Lib.hid fun h => by cases h), (Lib.hid fun h => by cases h), hW⟩
            · clear hW
              intro L a' u i hi1 hi2 hI hL hd
              obtain ⟨v82, v83, v84, v85, rfl, k9, k10, k11, k12, hW⟩ := hI
              obtain rfl | rfl | rfl | rfl := (show ∀ i : Nat, 9 ≤ i → i < 13 → (i = 9 ∨ i = 10 ∨ i = 11 ∨ i = 12) by omega) i hi1 hi2
              · -- operation 9
                have HW := Lib.hid hW
                clear hW hL hd hi1 hi2
                refine wpOp_step rfl fun K hK => ?_
                go_simp
                refine hK _ _ ⟨_, _, _, _, rfl, (Lib.hid fun _ => rfl), k10, k11, k12, HW.out⟩
              · -- operation 10
                obtain rfl := k9.out (hd 9 (by decide))
                have HW := Lib.hid hW
                clear hW hL hd hi1 hi2
                refine wpOp_step rfl fun K hK => ?_
                go_simp
                refine hK _ _ ⟨_, _, _, _, rfl, k9, (Lib.hid fun _ => rfl), k11, k12, HW.out⟩
              · -- operation 11
                obtain rfl := k10.out (hd 10 (by decide))
                obtain ⟨c0, c1, c2, c3⟩ := hW.2.1.2
                have HW := Lib.hid hW
                clear hW hL hd hi1 hi2
                refine wpOp_step rfl fun K hK => ?_
                go_simp
                refine hK _ _ ⟨_, _, _, _, rfl, k9, k10, (Lib.hid fun _ => rfl), k12, HW.out⟩
              · -- operation 12
                obtain ⟨c0, c1, c2, c3⟩ := hW.1.four.1
                have HW := Lib.hid hW
                clear hW hL hd hi1 hi2
                refine wpOp_step rfl fun K hK => ?_
                go_simp
                refine hK _ _ ⟨_, _, _, _, rfl, k9, k10, k11, (Lib.hid fun _ => rfl), HW.out⟩
            clear hW
            clear u
            intro L a' u hI hall
            obtain ⟨v82, v83, v84, v85, rfl, k9, k10, k11, k12, hW⟩ := hI
            obtain rfl := k9.out (hall 9 (by decide))
            obtain rfl := k10.out (hall 10 (by decide))
            obtain rfl := k11.out (hall 11 (by decide))
            obtain rfl := k12.out (hall 12 (by decide))
            clear k9 k10 k11 k12 hall L
            -- operation 13 alone
            refine from_one' hTab 13 (by kernel_rfl) ?_
            have HW := Lib.hid hW
            clear hW
            refine wpOp_step rfl fun K hK => ?_
            go_simp
            refine hK _ _ ?_
            clear hK K
            have hW := HW.out
            clear HW
            -- operation 14 alone
            refine from_one' hTab 14 (by kernel_rfl) ?_
            have HW := Lib.hid hW
            clear hW
            refine wpOp_step rfl fun K hK => ?_
            go_simp
            refine hK _ _ ?_
            clear hK K
            have hW := HW.out
            clear HW
            -- operation 15 alone
            refine from_one' hTab 15 (by kernel_rfl) ?_
            have HW := Lib.hid hW
            clear hW
            refine wpOp_step rfl fun K hK => ?_
            go_simp
            refine hK _ _ ?_
            clear hK K
            have hW := HW.out
            clear HW
            -- operations 16 to 17
            refine from_block' hTab 16 18 (by decide) (by kernel_rfl)
              (fun L a' u => ∃ v89 v90 : Value, a' = ⟨#[Value.slice A n c, Value.slice A0 n0 c0, Value.slice A1 n1 c1, Value.slice A2 n2 c2, Value.slice A3 n3 c3, Value.slice A4 n4 c4, undef, undef, undef, undef, undef, undef, u12, .pointer (some ⟨w2.heap.size, 0, none⟩), .slice (some ⟨gs, os, none⟩) l.length c14, u15, u16, .slice (some ⟨g17, o17, none⟩) l.length c17, .int .i64 ↑j, .pointer (some ⟨wr.heap.size, 0, none⟩), .slice (some ⟨g20, o20, none⟩) 1 c20, Value.slice A n c, .agg #[.int .i64 a, .int .i64 b, .int .i64 x, .int .i64 d], Value.slice A0 n0 c0, Value.slice A1 n1 c1, Value.slice A2 n2 c2, Value.slice A3 n3 c3, Value.slice A4 n4 c4, .slice (some ⟨gs, os, none⟩) l.length c14, .agg #[.int .i64 a, .int .i64 b, .int .i64 x, .int .i64 d], .slice (some ⟨gs, os, none⟩) l.length c14, .bool true, .bool false, .bool false, .agg #[.int .i64 a, .int .i64 b, .int .i64 x, .int .i64 d], .bool true, .bool false, .bool false, .slice (some ⟨gs, os, none⟩) l.length c14, .int .i64 ↑l.length, .int .i64 ↑l.length, .bool false, u42, u43, u44, u45, u46, u47, u48, u49, u50, u51, u52, u53, .agg #[.int .i64 a, .int .i64 b, .int .i64 x, .int .i64 d], .slice (some ⟨gs, os, none⟩) l.length c14, .slice (some ⟨g17, o17, none⟩) l.length c17, .slice (some ⟨g17, o17, none⟩) l.length c17, .int .i64 ↑l.length, .slice (some ⟨gs, os, none⟩) l.length c14, .int .i64 ↑l.length, .bool false, .slice (some ⟨g17, o17, none⟩) l.length c17, .int .i64 ↑l.length, .int .i64 ↑j, .bool true, .int .i64 ↑j, .pointer (some ⟨g17, o17 + j * 4, none⟩), .agg #[.int .i64 p, .int .i64 q, .int .i64 s, .int .i64 t], .agg #[.int .i64 p, .int .i64 q, .int .i64 s, .int .i64 t], .agg #[.int .i64 3, .int .i64 0, .int .i64 0, .int .i64 0, .int .i64 0, .int .i64 0, .int .i64 0, .int .i64 0], .slice (some ⟨wr.heap.size + 1, 0, none⟩) 1 1, .slice (some ⟨g20, o20, none⟩) 1 c20, .agg #[.int .i64 (p), .int .i64 (q), .int .i64 (s), .int .i64 (t)], .bool true, .bool false, .bool false, .slice (some ⟨g20, o20, none⟩) 1 c20, .int .i64 1, .bool false, .bool false, .bool false, .slice (some ⟨g20, o20, none⟩) 1 c20, .pointer (some ⟨g20, o20, none⟩), .agg #[.int .i64 (p), .int .i64 (q), .int .i64 (s), .int .i64 (t)], .agg #[.int .i64 (p), .int .i64 (q), .int .i64 (s), .int .i64 (t)], .bool false, .bool false, .bool false, v89, v90, u91, u92, u93, u94, u95, u96, u97, u98, u99, u100, u101, u102, u103, u104, u105, u106, u107, u108, u109], []⟩ ∧
                Hid (L 16 = true → v89 = .slice (some ⟨gs, os, none⟩) l.length c14) ∧ Hid (L 17 = true → v90 = .int .i64 ↑j) ∧ (At u wr.heap.size 25 [.int .i64 p, .int .i64 q, .int .i64 s, .int .i64 t] ∧ Four u g20 o20 p q s t ∧ One u gs (os + j * 8) (.int .i64 op) ∧ Below w7.heap.size w7 u)) ?_ ?_ ?_
            · exact ⟨_, _, rfl, (Lib.hid fun h => by cases h), (Lib.hid fun h => by cases h), hW⟩
            · clear hW
              intro L a' u i hi1 hi2 hI hL hd
              obtain ⟨v89, v90, rfl, k16, k17, hW⟩ := hI
              obtain rfl | rfl := (show ∀ i : Nat, 16 ≤ i → i < 18 → (i = 16 ∨ i = 17) by omega) i hi1 hi2
              · -- operation 16
                have HW := Lib.hid hW
                clear hW hL hd hi1 hi2
                refine wpOp_step rfl fun K hK => ?_
                go_simp
                refine hK _ _ ⟨_, _, rfl, (Lib.hid fun _ => rfl), k17, HW.out⟩
              · -- operation 17
                have HW := Lib.hid hW
                clear hW hL hd hi1 hi2
                refine wpOp_step rfl fun K hK => ?_
                go_simp
                refine hK _ _ ⟨_, _, rfl, k16, (Lib.hid fun _ => rfl), HW.out⟩
            clear hW
            clear u
            intro L a' u hI hall
            obtain ⟨v89, v90, rfl, k16, k17, hW⟩ := hI
            obtain rfl := k16.out (hall 16 (by decide))
            obtain rfl := k17.out (hall 17 (by decide))
            clear k16 k17 hall L
            -- operation 18 alone
            refine from_one' hTab 18 (by kernel_rfl) ?_
            have HW := Lib.hid hW
            clear hW
            refine wpOp_step rfl fun K hK => ?_
            go_simp
            refine hK _ _ ?_
            clear hK K
            have hW := HW.out
            clear HW
            -- operation 19 alone
            refine from_one' hTab 19 (by kernel_rfl) ?_
            have HW := Lib.hid hW
            clear hW
            refine wpOp_step rfl fun K hK => ?_
            go_simp
            refine hK _ _ ?_
            clear hK K
            have hW := HW.out
            clear HW
            -- operation 20 alone
            refine from_one' hTab 20 (by kernel_rfl) ?_
            have c0 := hW.2.2.1.2
            have HW := Lib.hid hW
            clear hW
            refine wpOp_step rfl fun K hK => ?_
            go_simp
            refine hK _ _ ?_
            clear hK K c0
            have hW := HW.out
            clear HW
            -- operation 21 alone
            refine from_one' hTab 21 (by kernel_rfl) ?_
            have HW := Lib.hid hW
            clear hW
            refine wpOp_step rfl fun K hK => ?_
            go_simp
            refine hK _ _ ?_
            clear hK K
            have hW := HW.out
            clear HW
            -- operation 22 alone
            refine from_one' hTab 22 (by kernel_rfl) ?_
            have HW := Lib.hid hW
            clear hW
            refine wpOp_step rfl fun K hK => ?_
            go_simp
            refine hK _ _ ?_
            clear hK K
            have hW := HW.out
            clear HW
            -- operation 23 alone
            refine from_one' hTab 23 (by kernel_rfl) ?_
            have HW := Lib.hid hW
            clear hW
            refine wpOp_step rfl fun K hK => ?_
            go_simp
            refine hK _ _ ?_
            clear hK K
            have hW := HW.out
            clear HW
            -- operation 24 alone
            refine from_one' hTab 24 (by kernel_rfl) ?_
            have HW := Lib.hid hW
            clear hW
            refine wpOp_step rfl fun K hK => ?_
            go_simp
            refine hK _ _ ?_
            clear hK K
            have hW := HW.out
            clear HW
            -- operation 25 alone
            refine from_one' hTab 25 (by kernel_rfl) ?_
            have HW := Lib.hid hW
            clear hW
            refine wpOp_step rfl fun K hK => ?_
            go_simp
            refine hK _ _ ?_
            clear hK K
            have hW := HW.out
            clear HW
            -- operation 26 alone
            refine from_one' hTab 26 (by kernel_rfl) ?_
            have HW := Lib.hid hW
            clear hW
            refine wpOp_step rfl fun K hK => ?_
            go_simp
            refine hK _ _ ?_
            clear hK K
            have hW := HW.out
            clear HW
            -- operations 27 to 32
            refine from_block' hTab 27 33 (by decide) (by kernel_rfl)
              (fun L a' u => ∃ v100 v101 v102 v103 v104 v105 : Value, a' = ⟨#[Value.slice A n c, Value.slice A0 n0 c0, Value.slice A1 n1 c1, Value.slice A2 n2 c2, Value.slice A3 n3 c3, Value.slice A4 n4 c4, undef, undef, undef, undef, undef, undef, u12, .pointer (some ⟨w2.heap.size, 0, none⟩), .slice (some ⟨gs, os, none⟩) l.length c14, u15, u16, .slice (some ⟨g17, o17, none⟩) l.length c17, .int .i64 ↑j, .pointer (some ⟨wr.heap.size, 0, none⟩), .slice (some ⟨g20, o20, none⟩) 1 c20, Value.slice A n c, .agg #[.int .i64 a, .int .i64 b, .int .i64 x, .int .i64 d], Value.slice A0 n0 c0, Value.slice A1 n1 c1, Value.slice A2 n2 c2, Value.slice A3 n3 c3, Value.slice A4 n4 c4, .slice (some ⟨gs, os, none⟩) l.length c14, .agg #[.int .i64 a, .int .i64 b, .int .i64 x, .int .i64 d], .slice (some ⟨gs, os, none⟩) l.length c14, .bool true, .bool false, .bool false, .agg #[.int .i64 a, .int .i64 b, .int .i64 x, .int .i64 d], .bool true, .bool false, .bool false, .slice (some ⟨gs, os, none⟩) l.length c14, .int .i64 ↑l.length, .int .i64 ↑l.length, .bool false, u42, u43, u44, u45, u46, u47, u48, u49, u50, u51, u52, u53, .agg #[.int .i64 a, .int .i64 b, .int .i64 x, .int .i64 d], .slice (some ⟨gs, os, none⟩) l.length c14, .slice (some ⟨g17, o17, none⟩) l.length c17, .slice (some ⟨g17, o17, none⟩) l.length c17, .int .i64 ↑l.length, .slice (some ⟨gs, os, none⟩) l.length c14, .int .i64 ↑l.length, .bool false, .slice (some ⟨g17, o17, none⟩) l.length c17, .int .i64 ↑l.length, .int .i64 ↑j, .bool true, .int .i64 ↑j, .pointer (some ⟨g17, o17 + j * 4, none⟩), .agg #[.int .i64 p, .int .i64 q, .int .i64 s, .int .i64 t], .agg #[.int .i64 p, .int .i64 q, .int .i64 s, .int .i64 t], .agg #[.int .i64 3, .int .i64 0, .int .i64 0, .int .i64 0, .int .i64 0, .int .i64 0, .int .i64 0, .int .i64 0], .slice (some ⟨wr.heap.size + 1, 0, none⟩) 1 1, .slice (some ⟨g20, o20, none⟩) 1 c20, .agg #[.int .i64 (p), .int .i64 (q), .int .i64 (s), .int .i64 (t)], .bool true, .bool false, .bool false, .slice (some ⟨g20, o20, none⟩) 1 c20, .int .i64 1, .bool false, .bool false, .bool false, .slice (some ⟨g20, o20, none⟩) 1 c20, .pointer (some ⟨g20, o20, none⟩), .agg #[.int .i64 (p), .int .i64 (q), .int .i64 (s), .int .i64 (t)], .agg #[.int .i64 (p), .int .i64 (q), .int .i64 (s), .int .i64 (t)], .bool false, .bool false, .bool false, .slice (some ⟨gs, os, none⟩) l.length c14, .int .i64 ↑j, .pointer (some ⟨gs, os + j * 8, none⟩), .pointer (some ⟨gs, os + j * 8, none⟩), .int .i64 (op), .bool false, .bool false, undef, undef, .bool false, .bool false, v100, v101, v102, v103, v104, v105, u106, u107, u108, u109], []⟩ ∧
                Hid (L 27 = true → v100 = undef) ∧ Hid (L 28 = true → v101 = undef) ∧ Hid (L 29 = true → v102 = undef) ∧ Hid (L 30 = true → v103 = undef) ∧ Hid (L 31 = true → v104 = undef) ∧ Hid (L 32 = true → v105 = undef) ∧ (At u wr.heap.size 25 [.int .i64 p, .int .i64 q, .int .i64 s, .int .i64 t] ∧ Four u g20 o20 p q s t ∧ One u gs (os + j * 8) (.int .i64 op) ∧ Below w7.heap.size w7 u)) ?_ ?_ ?_
            · exact ⟨_, _, _, _, _, _, rfl, (Lib.hid fun h => by cases h), (Lib.hid fun h => by cases h), (Lib.hid fun h => by cases h), (Lib.hid fun h => by cases h), (Lib.hid fun h => by cases h), (Lib.hid fun h => by cases h), hW⟩
            · clear hW
              intro L a' u i hi1 hi2 hI hL hd
              obtain ⟨v100, v101, v102, v103, v104, v105, rfl, k27, k28, k29, k30, k31, k32, hW⟩ := hI
              obtain rfl | rfl | rfl | rfl | rfl | rfl := (show ∀ i : Nat, 27 ≤ i → i < 33 → (i = 27 ∨ i = 28 ∨ i = 29 ∨ i = 30 ∨ i = 31 ∨ i = 32) by omega) i hi1 hi2
              · -- operation 27
                have HW := Lib.hid hW
                clear hW hL hd hi1 hi2
                refine wpOp_step rfl fun K hK => ?_
                go_simp
                refine hK _ _ ⟨_, _, _, _, _, _, rfl, (Lib.hid fun _ => rfl), k28, k29, k30, k31, k32, HW.out⟩
              · -- operation 28
                have HW := Lib.hid hW
                clear hW hL hd hi1 hi2
                refine wpOp_step rfl fun K hK => ?_
                go_simp
                refine hK _ _ ⟨_, _, _, _, _, _, rfl, k27, (Lib.hid fun _ => rfl), k29, k30, k31, k32, HW.out⟩
              · -- operation 29
                obtain rfl := k28.out (hd 28 (by decide))
                have HW := Lib.hid hW
                clear hW hL hd hi1 hi2
                refine wpOp_step rfl fun K hK => ?_
                go_simp
                refine hK _ _ ⟨_, _, _, _, _, _, rfl, k27, k28, (Lib.hid fun _ => rfl), k30, k31, k32, HW.out⟩
              · -- operation 30
                obtain rfl := k27.out (hd 27 (by decide))
                obtain rfl := k29.out (hd 29 (by decide))
                have HW := Lib.hid hW
                clear hW hL hd hi1 hi2
                refine wpOp_step rfl fun K hK => ?_
                go_simp
                refine hK _ _ ⟨_, _, _, _, _, _, rfl, k27, k28, k29, (Lib.hid fun _ => rfl), k31, k32, HW.out⟩
              · -- operation 31
                obtain rfl := k30.out (hd 30 (by decide))
                have HW := Lib.hid hW
                clear hW hL hd hi1 hi2
                refine wpOp_step rfl fun K hK => ?_
                go_simp
                refine hK _ _ ⟨_, _, _, _, _, _, rfl, k27, k28, k29, k30, (Lib.hid fun _ => rfl), k32, HW.out⟩
              · -- operation 32
                have HW := Lib.hid hW
                clear hW hL hd hi1 hi2
                refine wpOp_step rfl fun K hK => ?_
                go_simp
                refine hK _ _ ⟨_, _, _, _, _, _, rfl, k27, k28, k29, k30, k31, (Lib.hid fun _ => rfl), HW.out⟩
            clear hW
            clear u
            intro L a' u hI hall
            obtain ⟨v100, v101, v102, v103, v104, v105, rfl, k27, k28, k29, k30, k31, k32, hW⟩ := hI
            obtain rfl := k27.out (hall 27 (by decide))
            obtain rfl := k28.out (hall 28 (by decide))
            obtain rfl := k29.out (hall 29 (by decide))
            obtain rfl := k30.out (hall 30 (by decide))
            obtain rfl := k31.out (hall 31 (by decide))
            obtain rfl := k32.out (hall 32 (by decide))
            clear k27 k28 k29 k30 k31 k32 hall L
            -- operation 33 alone
            refine from_one' hTab 33 (by kernel_rfl) ?_
            have HW := Lib.hid hW
            clear hW
            refine wpOp_step rfl fun K hK => ?_
            go_simp
            refine hK _ _ ?_
            clear hK K
            have hW := HW.out
            clear HW
            -- operation 34 alone
            refine from_one' hTab 34 (by kernel_rfl) ?_
            have HW := Lib.hid hW
            clear hW
            refine wpOp_step rfl fun K hK => ?_
            go_simp
            refine hK _ _ ?_
            clear hK K
            have hW := HW.out
            clear HW
            -- operation 35 alone
            refine from_one' hTab 35 (by kernel_rfl) ?_
            have HW := Lib.hid hW
            clear hW
            refine wpOp_step rfl fun K hK => ?_
            go_simp
            refine hK _ _ ?_
            clear hK K
            have hW := HW.out
            clear HW
            refine from_end' hTab 36 (by kernel_rfl) ?_
            clear hTab
            have HW := Lib.hid hW
            clear hW
            go_wp2
            go_roundw
            case rel => exact ⟨j + 1, by omega, by go_num, HB7.out.trans (HW.out.2.2.2.mono HB7.out.size)⟩
            case measure => simp [intOf]; omega
        · obtain rfl : j = l.length := by omega
          go_wp2
          go_ret
          exact ⟨rfl, HB6.out.trans (HB.out.mono HB6.out.size)⟩
end Go.Proofs.Ytenhhkeajhkfoaa
