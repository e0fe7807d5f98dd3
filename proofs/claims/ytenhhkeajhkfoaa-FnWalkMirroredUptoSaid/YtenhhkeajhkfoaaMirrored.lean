/- The walk of FnWalkMirrored. Conditions: at most 1048576 kinds. -/
import Derived.Test.YtenhhkeajhkfoaaCompared
import Derived.Test.YtenhhkeajhkfoaaMoves
import Derived.Test.YtenhhkeajhkfoaaAppendS
import Derived.Test.YtenhhkeajhkfoaaPlainMir
namespace Go.Proofs.Ytenhhkeajhkfoaa
open Go.RowKit

theorem mirrored_near (a b c d : Int) (w : World) (h : Bd 4611686018427387904 ⟨a, b, c, d⟩) :
    Calls Try.prog 19 #[.agg #[.int .i64 a, .int .i64 b, .int .i64 c, .int .i64 d]] w fun e w' => e = .returned (.agg #[.int .i64 (-c), .int .i64 (-d), .int .i64 (-a), .int .i64 (-b)]) ∧ Below w.heap.size w w' := by
  have hm := mirrored_any a b c d w
  obtain ⟨h0, h1, h2, h3⟩ := h
  dsimp only at h0 h1 h2 h3
  rw [IntWalk.wrap64_in _ (by omega), IntWalk.wrap64_in _ (by omega), IntWalk.wrap64_in _ (by omega), IntWalk.wrap64_in _ (by omega)] at hm
  exact hm

set_option maxHeartbeats 1000000 in
theorem mirrored1_any (p q s t : Int) (w : World) (hbd : Bd (1125899906842624 * 101) ⟨p, q, s, t⟩) :
    Calls Try.prog 21 #[.agg #[.int .i64 p, .int .i64 q, .int .i64 s, .int .i64 t], .agg #[.int .i64 (-s), .int .i64 (-t), .int .i64 (-p), .int .i64 (-q)]] w fun e w' => e = .returned (.bool true) ∧ Below w.heap.size w w' := by
  have HM := Lib.hid (fun w => mirrored_near p q s t w (hbd.mono (by omega)))
  clear hbd
  go_enter Try.func21, Try.ntmps21
  go_wp2_with fail
  refine wp_region_tail [[], [0], [], [0, 1, 2], [0, 1, 2, 3]] (by kernel_rfl) (by kernel_rfl) 5 rfl (by decide) (by decide) (by kernel_rfl)
    (fun L a' u => ∃ v4 v5 v6 v7 v8 : Value, a' = ⟨#[.agg #[.int .i64 p, .int .i64 q, .int .i64 s, .int .i64 t], .agg #[.int .i64 (-s), .int .i64 (-t), .int .i64 (-p), .int .i64 (-q)], .pointer (some ⟨w.heap.size, 0, none⟩), .pointer (some ⟨w.heap.size + 1, 0, none⟩), v4, v5, v6, v7, v8], []⟩ ∧
      Hid (L 0 = true → v5 = .agg #[.int .i64 p, .int .i64 q, .int .i64 s, .int .i64 t]) ∧ Hid (L 1 = true → v6 = .agg #[.int .i64 (-s), .int .i64 (-t), .int .i64 (-p), .int .i64 (-q)]) ∧ Hid (L 2 = true → v7 = .agg #[.int .i64 (-s), .int .i64 (-t), .int .i64 (-p), .int .i64 (-q)]) ∧ Hid (L 3 = true → v8 = .bool true) ∧ Hid (L 4 = true → v4 = .bool true) ∧ (Ats [(w.heap.size, 25, [.int .i64 p, .int .i64 q, .int .i64 s, .int .i64 t]), (w.heap.size + 1, 25, [.int .i64 (-s), .int .i64 (-t), .int .i64 (-p), .int .i64 (-q)])] w u)) ?_ ?_ ?_
  · refine ⟨_, _, _, _, _, rfl, (Lib.hid fun h => by cases h), (Lib.hid fun h => by cases h), (Lib.hid fun h => by cases h), (Lib.hid fun h => by cases h), (Lib.hid fun h => by cases h), ?_⟩
    refine Ats.cons ?_ (Ats.cons ?_ (Ats.nil ?_))
    · (repeat first | exact At.new' _ _ _ (by first | rfl | (simp only [size_alloc])) | refine At.drew ?_ | refine At.alloc ?_ _)
    · (repeat first | exact At.new' _ _ _ (by first | rfl | (simp only [size_alloc])) | refine At.drew ?_ | refine At.alloc ?_ _)
    · (repeat first | exact Below.refl _ _ | refine Below.drew ?_ | refine Below.alloc ?_ (by first | exact Nat.le_refl _ | (simp only [size_alloc]; omega)) _)
  · intro L a' u i hi hI hL hd
    obtain ⟨v4, v5, v6, v7, v8, rfl, k0, k1, k2, k3, k4, hW⟩ := hI
    obtain rfl | rfl | rfl | rfl | rfl : i = 0 ∨ i = 1 ∨ i = 2 ∨ i = 3 ∨ i = 4 := by omega
    · -- operation 0
      obtain ⟨c0, c1, c2, c3⟩ := (hW.nth 0 rfl).four.1
      have HW := Lib.hid hW
      clear hW hL hd
      refine wpOp_step rfl fun K hK => ?_
      go_simp
      refine hK _ _ ⟨_, _, _, _, _, rfl, (Lib.hid fun _ => rfl), k1, k2, k3, k4, HW.out⟩
    · -- operation 1
      obtain rfl := k0.out (hd 0 (by decide))
      have HW := Lib.hid hW
      clear hW hL hd
      refine wpOp_step rfl fun K hK => ?_
      go_simp
      go_at_call 19
      refine (HM.out _).mono ?_
      rintro _ w' ⟨rfl, hb⟩
      refine hK _ _ ⟨_, _, _, _, _, rfl, k0, (Lib.hid fun _ => rfl), k2, k3, k4, HW.out.by hb⟩
    · -- operation 2
      obtain ⟨c0, c1, c2, c3⟩ := (hW.nth 1 rfl).four.1
      have HW := Lib.hid hW
      clear hW hL hd
      refine wpOp_step rfl fun K hK => ?_
      go_simp
      refine hK _ _ ⟨_, _, _, _, _, rfl, k0, k1, (Lib.hid fun _ => rfl), k3, k4, HW.out⟩
    · -- operation 3
      obtain rfl := k1.out (hd 1 (by decide))
      obtain rfl := k2.out (hd 2 (by decide))
      have HW := Lib.hid hW
      clear hW hL hd
      refine wpOp_step rfl fun K hK => ?_
      go_simp
      refine hK _ _ ⟨_, _, _, _, _, rfl, k0, k1, k2, (Lib.hid fun _ => rfl), k4, HW.out⟩
    · -- operation 4
      obtain rfl := k3.out (hd 3 (by decide))
      have HW := Lib.hid hW
      clear hW hL hd
      refine wpOp_step rfl fun K hK => ?_
      go_simp
      refine hK _ _ ⟨_, _, _, _, _, rfl, k0, k1, k2, k3, (Lib.hid fun _ => rfl), HW.out⟩
  intro L a' u hI hall
  obtain ⟨v4, v5, v6, v7, v8, rfl, k0, k1, k2, k3, k4, hW⟩ := hI
  obtain rfl := k0.out (hall 0 (by decide))
  obtain rfl := k1.out (hall 1 (by decide))
  obtain rfl := k2.out (hall 2 (by decide))
  obtain rfl := k3.out (hall 3 (by decide))
  obtain rfl := k4.out (hall 4 (by decide))
  clear k0 k1 k2 k3 k4 hall
  show wpOps _ _ _ [] _ _
  unfold wpOps
  have HW := Lib.hid hW
  clear hW
  go_wp2
  go_ret
  exact ⟨rfl, HW.out.2⟩

set_option maxHeartbeats 8000000 in
theorem mirrored_walk (A A0 A1 A2 A3 A4 : Option Addr) (n c n0 c0 n1 c1 n2 c2 n3 c3 n4 c4 : Nat) (z z0 z1 z2 z3 : List Int) (z4 : List (List Int)) (w : World)
    (h : Ints w A n z) (h0 : Ints w A0 n0 z0) (h1 : Ints w A1 n1 z1) (h2 : Ints w A2 n2 z2) (h3 : Ints w A3 n3 z3) (h4 : RowsAt w A4 n4 z4) (hn : n0 ≤ 1048576) :
    Calls Try.prog 5 #[.slice A n c, .slice A0 n0 c0, .slice A1 n1 c1, .slice A2 n2 c2, .slice A3 n3 c3, .slice A4 n4 c4] w fun e w' => e = .returned (.bool true) ∧ Below w.heap.size w w' := by
  have L := fun u hu => lrect_any A n c z u hu
  generalize rectOf z = sr at L
  obtain ⟨a, b, x, d⟩ := sr
  have HL := Lib.hid L
  have HS := Lib.hid (fun u b0 b1 b2 b3 b4 => script_any A0 A1 A2 A3 A4 n0 c0 n1 c1 n2 c2 n3 c3 n4 c4 z0 z1 z2 z3 z4 u b0 b1 b2 b3 b4 hn)
  obtain ⟨l, hl⟩ : ∃ l, scriptS z0 z1 z2 z3 z4 n0 = l := ⟨_, rfl⟩
  have hm : l.length ≤ 1048576 := by rw [← hl, scriptS_length]; exact hn
  rw [hl] at HS
  clear hl
  have H := Lib.hid h
  have HH := Lib.hid (And.intro h0 (And.intro h1 (And.intro h2 (And.intro h3 h4))))
  clear L h h0 h1 h2 h3 h4
  go_enter Try.func5, Try.ntmps5
  go_wp2_with fail
  refine (HL.out _ H.out).mono ?_
  rintro _ w1 ⟨rfl, hb1⟩
  have HB1 := Lib.hid hb1
  clear hb1
  go_wp2_with fail
  refine (HS.out _ (HH.out.1.below (Nat.le_refl _) HB1.out) (HH.out.2.1.below (Nat.le_refl _) HB1.out) (HH.out.2.2.1.below (Nat.le_refl _) HB1.out) (HH.out.2.2.2.1.below (Nat.le_refl _) HB1.out) (HH.out.2.2.2.2.by HB1.out)).mono ?_
  rintro _ w2 ⟨v2, rfl, ho2, hb2⟩
  obtain ⟨A14, c14, rfl, hS⟩ := ho2.form
  have HB2 := Lib.hid (HB1.out.trans (hb2.mono HB1.out.size))
  have HS2 := Lib.hid hS
  clear hb2 ho2 hS HB1 HL H HS HH
  go_wp2_with fail
  have h26 := (At.new (w2.alloc (.cells #[] 31)) 25 [.int .i64 a, .int .i64 b, .int .i64 x, .int .i64 d])
  rw [size_alloc] at h26
  have ho26 := (ownS_empty w2).alloc (.cells #[.int .i64 a, .int .i64 b, .int .i64 x, .int .i64 d] 25)
  have hSM := small_any a b x d A14 c14 l _ ((HS2.out.alloc (.cells #[] 31)).alloc (.cells #[.int .i64 a, .int .i64 b, .int .i64 x, .int .i64 d] 25)) (by omega)
  obtain ⟨near, hnear⟩ : ∃ near, nearAll ⟨a, b, x, d⟩ l = near := ⟨_, rfl⟩
  rw [hnear] at hSM
  have HNE := Lib.hid hnear
  clear hnear
  refine hSM.mono ?_
  clear hSM
  rintro _ w3 ⟨rfl, hb3⟩
  have HI3 := Lib.hid (And.intro (ho26.by hb3) (And.intro (h26.by hb3) ((two_new w2 _ _).trans (hb3.mono (by simp only [size_alloc]; omega)))))
  clear h26 ho26 hb3
  cases near with
  | false =>
    go_wp2
    go_ret
    exact ⟨rfl, HB2.out.trans (HI3.out.2.2.mono HB2.out.size)⟩
  | true =>
  go_wp2
  go_loopw [15, 33] (fun v i wr => ∃ k : Nat, k ≤ l.length ∧ i = .int .i64 k ∧ OwnS wr w2.heap.size v ((l.take k).map negS) ∧ At wr (w2.heap.size + 1) 25 [.int .i64 a, .int .i64 b, .int .i64 x, .int .i64 d] ∧ Below w2.heap.size w2 wr) (fun _ i _ => l.length - (intOf i).toNat)
  case atStart =>
    exact ⟨0, Nat.zero_le _, rfl, HI3.out.1, HI3.out.2.1, HI3.out.2.2⟩
  case round =>
    obtain ⟨k, hk, rfl, hown, hat, hbel⟩ := hrel
    have HO := Lib.hid hown
    have HA := Lib.hid hat
    have HB := Lib.hid hbel
    clear hown hat hbel
    by_cases hlt : k < l.length
    · obtain ⟨g, o, rfl, hg, y0, y1, y2, y3, y4, y5, y6, y7⟩ := Steps.at_ (HS2.out.by HB.out) hlt
      have htk := take_map_snoc negS l k hlt
      have hnr := (nearAll_out HNE.out).2.2 l[k] (List.getElem_mem hlt)
      generalize hr : l[k] = s at hnr y0 y1 y2 y3 y4 y5 y6 y7 htk
      clear hr hg
      obtain ⟨op, px, py, m, ⟨e, f, g', h⟩⟩ := s
      dsimp only at y0 y1 y2 y3 y4 y5 y6 y7
      have HT := Lib.hid htk
      have hpx : IntKind.i64.wrap (-px) = -px := IntWalk.i64_in _ (by have := hnr.1; dsimp only at this; omega)
      have hpy : IntKind.i64.wrap (-py) = -py := IntWalk.i64_in _ (by have := hnr.2.1; dsimp only at this; omega)
      have HMR := Lib.hid (fun w => mirrored_near e f g' h w (hnr.2.2.2.mono (by omega)))
      clear htk hnr
      go_wp2_with fail
      clear y0 y1 y2 y3 y4 y5 y6 y7
      refine wp_region_tail [[], [], [1], [], [3], [3, 4], [3, 4, 5], [], [7], [7, 8], [7, 8, 9], [3, 4, 5, 6, 7, 8, 9, 10], [], [12], [], [14], [14, 15], [1, 2, 3, 4, 5, 6, 7, 8, 9, 10, 11, 12, 13, 14, 15, 16], [1, 2, 3, 4, 5, 6, 7, 8, 9, 10, 11, 12, 13, 14, 15, 16, 17], [0, 1, 2, 3, 4, 5, 6, 7, 8, 9, 10, 11, 12, 13, 14, 15, 16, 17, 18], [0, 1, 2, 3, 4, 5, 6, 7, 8, 9, 10, 11, 12, 13, 14, 15, 16, 17, 18, 19]] (by kernel_rfl) (by kernel_rfl) 19 rfl (by decide) (by decide) (by kernel_rfl)
        (fun L a' u => ∃ v37 v38 v39 v40 v41 v42 v43 v44 v45 v46 v47 v48 v49 v50 v51 v52 v53 v54 v55 : Value, a' = ⟨#[Value.slice A n c, Value.slice A0 n0 c0, Value.slice A1 n1 c1, Value.slice A2 n2 c2, Value.slice A3 n3 c3, Value.slice A4 n4 c4, undef, undef, undef, undef, undef, undef, Value.bool false, Value.pointer (some { block := w2.heap.size + 1, off := 0 }), Value.slice (some { block := g, off := o }) l.length c14, u15, undef, Value.pointer (some { block := wr.heap.size, off := 0 }), Value.slice A n c, Value.agg #[Value.int IntKind.i64 a, Value.int IntKind.i64 b, Value.int IntKind.i64 x, Value.int IntKind.i64 d], Value.slice A0 n0 c0, Value.slice A1 n1 c1, Value.slice A2 n2 c2, Value.slice A3 n3 c3, Value.slice A4 n4 c4, Value.slice (some { block := g, off := o }) l.length c14, Value.slice (some { block := w2.heap.size, off := 0 }) 0 0, Value.agg #[Value.int IntKind.i64 a, Value.int IntKind.i64 b, Value.int IntKind.i64 x, Value.int IntKind.i64 d], Value.slice (some { block := g, off := o }) l.length c14, Value.bool true, Value.bool false, Value.slice (some { block := g, off := o }) l.length c14, Value.int IntKind.i64 ↑l.length, Value.int IntKind.i64 ↑k, Value.bool true, Value.pointer (some { block := g, off := o + k * 8 }), Value.agg #[Value.int IntKind.i64 op, Value.int IntKind.i64 px, Value.int IntKind.i64 py, Value.int IntKind.i64 m, Value.int IntKind.i64 e, Value.int IntKind.i64 f, Value.int IntKind.i64 g', Value.int IntKind.i64 h], v37, v38, v39, v40, v41, v42, v43, v44, v45, v46, v47, v48, v49, v50, v51, v52, v53, v54, v55, u56, u57, undef, undef, undef, undef, undef, undef], []⟩ ∧
          Hid (L 0 = true → v37 = u15) ∧ Hid (L 1 = true → v38 = .pointer (some ⟨wr.heap.size, 0, none⟩)) ∧ Hid (L 2 = true → v39 = .int .i64 (op)) ∧ Hid (L 3 = true → v40 = .pointer (some ⟨wr.heap.size, 1, none⟩)) ∧ Hid (L 4 = true → v41 = .pointer (some ⟨wr.heap.size, 1, none⟩)) ∧ Hid (L 5 = true → v42 = .int .i64 (px)) ∧ Hid (L 6 = true → v43 = .int .i64 (-px)) ∧ Hid (L 7 = true → v44 = .pointer (some ⟨wr.heap.size, 1, none⟩)) ∧ Hid (L 8 = true → v45 = .pointer (some ⟨wr.heap.size, 2, none⟩)) ∧ Hid (L 9 = true → v46 = .int .i64 (py)) ∧ Hid (L 10 = true → v47 = .int .i64 (-py)) ∧ Hid (L 11 = true → v48 = .agg #[.int .i64 (-px), .int .i64 (-py)]) ∧ Hid (L 12 = true → v49 = .pointer (some ⟨wr.heap.size, 3, none⟩)) ∧ Hid (L 13 = true → v50 = .int .i64 (m)) ∧ Hid (L 14 = true → v51 = .pointer (some ⟨wr.heap.size, 4, none⟩)) ∧ Hid (L 15 = true → v52 = .agg #[.int .i64 e, .int .i64 f, .int .i64 g', .int .i64 h]) ∧ Hid (L 16 = true → v53 = .agg #[.int .i64 (-g'), .int .i64 (-h), .int .i64 (-e), .int .i64 (-f)]) ∧ Hid (L 17 = true → v54 = .agg #[.int .i64 op, .int .i64 (-px), .int .i64 (-py), .int .i64 m, .int .i64 (-g'), .int .i64 (-h), .int .i64 (-e), .int .i64 (-f)]) ∧ Hid (L 18 = true → ∃ g55, v55 = .slice (some ⟨g55, 0, none⟩) 1 1 ∧ wr.heap.size ≤ g55 ∧ At u g55 31 [.int .i64 op, .int .i64 (-px), .int .i64 (-py), .int .i64 m, .int .i64 (-g'), .int .i64 (-h), .int .i64 (-e), .int .i64 (-f)]) ∧ (Ats [(wr.heap.size, 31, [.int .i64 op, .int .i64 px, .int .i64 py, .int .i64 m, .int .i64 e, .int .i64 f, .int .i64 g', .int .i64 h])] wr u)) ?_ ?_ ?_
      · refine ⟨_, _, _, _, _, _, _, _, _, _, _, _, _, _, _, _, _, _, _, rfl, (Lib.hid fun h => by cases h), (Lib.hid fun h => by cases h), (Lib.hid fun h => by cases h), (Lib.hid fun h => by cases h), (Lib.hid fun h => by cases h), (Lib.hid fun h => by cases h), (Lib.hid fun h => by cases h), (Lib.hid fun h => by cases h), (Lib.hid fun h => by cases h), (Lib.hid fun h => by cases h), (Lib.hid fun h => by cases h), (Lib.hid fun h => by cases h), (Lib.hid fun h => by cases h), (Lib.hid fun h => by cases h), (Lib.hid fun h => by cases h), (Lib.hid fun h => by cases h), (Lib.hid fun h => by cases h), (Lib.hid fun h => by cases h), (Lib.hid fun h => by cases h), ?_⟩
        refine Ats.cons ?_ (Ats.nil ?_)
        · (repeat first | exact At.new' _ _ _ (by first | rfl | (simp only [size_alloc])) | refine At.drew ?_ | refine At.alloc ?_ _)
        · (repeat first | exact Below.refl _ _ | refine Below.drew ?_ | refine Below.alloc ?_ (by first | exact Nat.le_refl _ | (simp only [size_alloc]; omega)) _)
      · intro L a' u i hi hI hL hd
        obtain ⟨v37, v38, v39, v40, v41, v42, v43, v44, v45, v46, v47, v48, v49, v50, v51, v52, v53, v54, v55, rfl, k0, k1, k2, k3, k4, k5, k6, k7, k8, k9, k10, k11, k12, k13, k14, k15, k16, k17, k18, hW⟩ := hI
        obtain rfl | rfl | rfl | rfl | rfl | rfl | rfl | rfl | rfl | rfl | rfl | rfl | rfl | rfl | rfl | rfl | rfl | rfl | rfl : i = 0 ∨ i = 1 ∨ i = 2 ∨ i = 3 ∨ i = 4 ∨ i = 5 ∨ i = 6 ∨ i = 7 ∨ i = 8 ∨ i = 9 ∨ i = 10 ∨ i = 11 ∨ i = 12 ∨ i = 13 ∨ i = 14 ∨ i = 15 ∨ i = 16 ∨ i = 17 ∨ i = 18 := by omega
        · -- operation 0
          have HW := Lib.hid hW
          clear hW hL hd
          refine wpOp_step rfl fun K hK => ?_
          go_simp
          refine hK _ _ ⟨_, _, _, _, _, _, _, _, _, _, _, _, _, _, _, _, _, _, _, rfl, (Lib.hid fun _ => rfl), k1, k2, k3, k4, k5, k6, k7, k8, k9, k10, k11, k12, k13, k14, k15, k16, k17, k18, HW.out⟩
        · -- operation 1
          have HW := Lib.hid hW
          clear hW hL hd
          refine wpOp_step rfl fun K hK => ?_
          go_simp
          refine hK _ _ ⟨_, _, _, _, _, _, _, _, _, _, _, _, _, _, _, _, _, _, _, rfl, k0, (Lib.hid fun _ => rfl), k2, k3, k4, k5, k6, k7, k8, k9, k10, k11, k12, k13, k14, k15, k16, k17, k18, HW.out⟩
        · -- operation 2
          obtain rfl := k1.out (hd 1 (by decide))
          obtain ⟨c0, c1, c2, c3, c4, c5, c6, c7⟩ := (hW.nth 0 rfl).eight.1
          have HW := Lib.hid hW
          clear hW hL hd
          refine wpOp_step rfl fun K hK => ?_
          go_simp
          refine hK _ _ ⟨_, _, _, _, _, _, _, _, _, _, _, _, _, _, _, _, _, _, _, rfl, k0, k1, (Lib.hid fun _ => rfl), k3, k4, k5, k6, k7, k8, k9, k10, k11, k12, k13, k14, k15, k16, k17, k18, HW.out⟩
        · -- operation 3
          have HW := Lib.hid hW
          clear hW hL hd
          refine wpOp_step rfl fun K hK => ?_
          go_simp
          refine hK _ _ ⟨_, _, _, _, _, _, _, _, _, _, _, _, _, _, _, _, _, _, _, rfl, k0, k1, k2, (Lib.hid fun _ => rfl), k4, k5, k6, k7, k8, k9, k10, k11, k12, k13, k14, k15, k16, k17, k18, HW.out⟩
        · -- operation 4
          obtain rfl := k3.out (hd 3 (by decide))
          have HW := Lib.hid hW
          clear hW hL hd
          refine wpOp_step rfl fun K hK => ?_
          go_simp
          refine hK _ _ ⟨_, _, _, _, _, _, _, _, _, _, _, _, _, _, _, _, _, _, _, rfl, k0, k1, k2, k3, (Lib.hid fun _ => rfl), k5, k6, k7, k8, k9, k10, k11, k12, k13, k14, k15, k16, k17, k18, HW.out⟩
        · -- operation 5
          obtain rfl := k4.out (hd 4 (by decide))
          obtain ⟨c0, c1, c2, c3, c4, c5, c6, c7⟩ := (hW.nth 0 rfl).eight.1
          have HW := Lib.hid hW
          clear hW hL hd
          refine wpOp_step rfl fun K hK => ?_
          go_simp
          refine hK _ _ ⟨_, _, _, _, _, _, _, _, _, _, _, _, _, _, _, _, _, _, _, rfl, k0, k1, k2, k3, k4, (Lib.hid fun _ => rfl), k6, k7, k8, k9, k10, k11, k12, k13, k14, k15, k16, k17, k18, HW.out⟩
        · -- operation 6
          obtain rfl := k5.out (hd 5 (by decide))
          have HW := Lib.hid hW
          clear hW hL hd
          refine wpOp_step rfl fun K hK => ?_
          go_simp
          refine hK _ _ ⟨_, _, _, _, _, _, _, _, _, _, _, _, _, _, _, _, _, _, _, rfl, k0, k1, k2, k3, k4, k5, (Lib.hid fun _ => rfl), k7, k8, k9, k10, k11, k12, k13, k14, k15, k16, k17, k18, HW.out⟩
        · -- operation 7
          have HW := Lib.hid hW
          clear hW hL hd
          refine wpOp_step rfl fun K hK => ?_
          go_simp
          refine hK _ _ ⟨_, _, _, _, _, _, _, _, _, _, _, _, _, _, _, _, _, _, _, rfl, k0, k1, k2, k3, k4, k5, k6, (Lib.hid fun _ => rfl), k8, k9, k10, k11, k12, k13, k14, k15, k16, k17, k18, HW.out⟩
        · -- operation 8
          obtain rfl := k7.out (hd 7 (by decide))
          have HW := Lib.hid hW
          clear hW hL hd
          refine wpOp_step rfl fun K hK => ?_
          go_simp
          refine hK _ _ ⟨_, _, _, _, _, _, _, _, _, _, _, _, _, _, _, _, _, _, _, rfl, k0, k1, k2, k3, k4, k5, k6, k7, (Lib.hid fun _ => rfl), k9, k10, k11, k12, k13, k14, k15, k16, k17, k18, HW.out⟩
        · -- operation 9
          obtain rfl := k8.out (hd 8 (by decide))
          obtain ⟨c0, c1, c2, c3, c4, c5, c6, c7⟩ := (hW.nth 0 rfl).eight.1
          have HW := Lib.hid hW
          clear hW hL hd
          refine wpOp_step rfl fun K hK => ?_
          go_simp
          refine hK _ _ ⟨_, _, _, _, _, _, _, _, _, _, _, _, _, _, _, _, _, _, _, rfl, k0, k1, k2, k3, k4, k5, k6, k7, k8, (Lib.hid fun _ => rfl), k10, k11, k12, k13, k14, k15, k16, k17, k18, HW.out⟩
        · -- operation 10
          obtain rfl := k9.out (hd 9 (by decide))
          have HW := Lib.hid hW
          clear hW hL hd
          refine wpOp_step rfl fun K hK => ?_
          go_simp
          refine hK _ _ ⟨_, _, _, _, _, _, _, _, _, _, _, _, _, _, _, _, _, _, _, rfl, k0, k1, k2, k3, k4, k5, k6, k7, k8, k9, (Lib.hid fun _ => rfl), k11, k12, k13, k14, k15, k16, k17, k18, HW.out⟩
        · -- operation 11
          obtain rfl := k6.out (hd 6 (by decide))
          obtain rfl := k10.out (hd 10 (by decide))
          have HW := Lib.hid hW
          clear hW hL hd
          refine wpOp_step rfl fun K hK => ?_
          go_simp
          refine hK _ _ ⟨_, _, _, _, _, _, _, _, _, _, _, _, _, _, _, _, _, _, _, rfl, k0, k1, k2, k3, k4, k5, k6, k7, k8, k9, k10, (Lib.hid fun _ => rfl), k12, k13, k14, k15, k16, k17, k18, HW.out⟩
        · -- operation 12
          have HW := Lib.hid hW
          clear hW hL hd
          refine wpOp_step rfl fun K hK => ?_
          go_simp
          refine hK _ _ ⟨_, _, _, _, _, _, _, _, _, _, _, _, _, _, _, _, _, _, _, rfl, k0, k1, k2, k3, k4, k5, k6, k7, k8, k9, k10, k11, (Lib.hid fun _ => rfl), k13, k14, k15, k16, k17, k18, HW.out⟩
        · -- operation 13
          obtain rfl := k12.out (hd 12 (by decide))
          obtain ⟨c0, c1, c2, c3, c4, c5, c6, c7⟩ := (hW.nth 0 rfl).eight.1
          have HW := Lib.hid hW
          clear hW hL hd
          refine wpOp_step rfl fun K hK => ?_
          go_simp
          refine hK _ _ ⟨_, _, _, _, _, _, _, _, _, _, _, _, _, _, _, _, _, _, _, rfl, k0, k1, k2, k3, k4, k5, k6, k7, k8, k9, k10, k11, k12, (Lib.hid fun _ => rfl), k14, k15, k16, k17, k18, HW.out⟩
        · -- operation 14
          have HW := Lib.hid hW
          clear hW hL hd
          refine wpOp_step rfl fun K hK => ?_
          go_simp
          refine hK _ _ ⟨_, _, _, _, _, _, _, _, _, _, _, _, _, _, _, _, _, _, _, rfl, k0, k1, k2, k3, k4, k5, k6, k7, k8, k9, k10, k11, k12, k13, (Lib.hid fun _ => rfl), k15, k16, k17, k18, HW.out⟩
        · -- operation 15
          obtain rfl := k14.out (hd 14 (by decide))
          obtain ⟨c0, c1, c2, c3, c4, c5, c6, c7⟩ := (hW.nth 0 rfl).eight.1
          have HW := Lib.hid hW
          clear hW hL hd
          refine wpOp_step rfl fun K hK => ?_
          go_simp
          refine hK _ _ ⟨_, _, _, _, _, _, _, _, _, _, _, _, _, _, _, _, _, _, _, rfl, k0, k1, k2, k3, k4, k5, k6, k7, k8, k9, k10, k11, k12, k13, k14, (Lib.hid fun _ => rfl), k16, k17, k18, HW.out⟩
        · -- operation 16
          obtain rfl := k15.out (hd 15 (by decide))
          have HW := Lib.hid hW
          clear hW hL hd
          refine wpOp_step rfl fun K hK => ?_
          go_simp
          go_at_call 19
          refine (HMR.out _).mono ?_
          rintro _ w' ⟨rfl, hb⟩
          refine hK _ _ ⟨_, _, _, _, _, _, _, _, _, _, _, _, _, _, _, _, _, _, _, rfl, k0, k1, k2, k3, k4, k5, k6, k7, k8, k9, k10, k11, k12, k13, k14, k15, (Lib.hid fun _ => rfl), k17, (Lib.hid fun hl => ?_), HW.out.by hb⟩
          · obtain ⟨gg, eg, lg, hg⟩ := k18.out hl
            exact ⟨gg, eg, lg, hg.by hb⟩
        · -- operation 17
          obtain rfl := k2.out (hd 2 (by decide))
          obtain rfl := k11.out (hd 11 (by decide))
          obtain rfl := k13.out (hd 13 (by decide))
          obtain rfl := k16.out (hd 16 (by decide))
          have HW := Lib.hid hW
          clear hW hL hd
          refine wpOp_step rfl fun K hK => ?_
          go_simp
          refine hK _ _ ⟨_, _, _, _, _, _, _, _, _, _, _, _, _, _, _, _, _, _, _, rfl, k0, k1, k2, k3, k4, k5, k6, k7, k8, k9, k10, k11, k12, k13, k14, k15, k16, (Lib.hid fun _ => rfl), k18, HW.out⟩
        · -- operation 18
          obtain rfl := k17.out (hd 17 (by decide))
          have HW := Lib.hid hW
          clear hW hL hd
          refine wpOp_step rfl fun K hK => ?_
          go_simp
          refine hK _ _ ⟨_, _, _, _, _, _, _, _, _, _, _, _, _, _, _, _, _, _, _, rfl, k0, k1, k2, k3, k4, k5, k6, k7, k8, k9, k10, k11, k12, k13, k14, k15, k16, k17, (Lib.hid fun _ => ⟨_, rfl, HW.out.2.size, At.new _ _ _⟩), HW.out.by ((Below.refl _ _).alloc (Nat.le_refl _) _)⟩
      intro L a' u hI hall
      obtain ⟨v37, v38, v39, v40, v41, v42, v43, v44, v45, v46, v47, v48, v49, v50, v51, v52, v53, v54, v55, rfl, k0, k1, k2, k3, k4, k5, k6, k7, k8, k9, k10, k11, k12, k13, k14, k15, k16, k17, k18, hW⟩ := hI
      obtain ⟨g55, e55, l55, h55⟩ := k18.out (hall 18 (by decide))
      obtain rfl := k0.out (hall 0 (by decide))
      obtain rfl := k1.out (hall 1 (by decide))
      obtain rfl := k2.out (hall 2 (by decide))
      obtain rfl := k3.out (hall 3 (by decide))
      obtain rfl := k4.out (hall 4 (by decide))
      obtain rfl := k5.out (hall 5 (by decide))
      obtain rfl := k6.out (hall 6 (by decide))
      obtain rfl := k7.out (hall 7 (by decide))
      obtain rfl := k8.out (hall 8 (by decide))
      obtain rfl := k9.out (hall 9 (by decide))
      obtain rfl := k10.out (hall 10 (by decide))
      obtain rfl := k11.out (hall 11 (by decide))
      obtain rfl := k12.out (hall 12 (by decide))
      obtain rfl := k13.out (hall 13 (by decide))
      obtain rfl := k14.out (hall 14 (by decide))
      obtain rfl := k15.out (hall 15 (by decide))
      obtain rfl := k16.out (hall 16 (by decide))
      obtain rfl := k17.out (hall 17 (by decide))
      subst e55
      clear k0 k1 k2 k3 k4 k5 k6 k7 k8 k9 k10 k11 k12 k13 k14 k15 k16 k17 k18 hall
      show wpOps _ _ _ [19, 20] _ _
      dsimp only
      have hb3 := hW.2
      have HO3 := Lib.hid (HO.out.by hb3)
      have HA3 := Lib.hid (HA.out.by hb3)
      have HB3 := Lib.hid (HB.out.trans (hb3.mono HB.out.size))
      have H55 := Lib.hid h55
      clear hW hb3 h55
      refine wpOps_tail 19 _ rfl rfl ?_
      simp only [List.drop_succ_cons, List.drop_zero]
      go_wp2_with (at_builtin; refine append_step_at rfl (.tmp 37) (.tmp 55) rfl _ w2.heap.size g55 _ _ ⟨op, -px, -py, m, ⟨-g', -h, -e, -f⟩⟩ rfl HO3.out rfl H55.out (by rw [List.length_map, List.length_take]; omega) HB3.out.size ?_; intro v' w4 hown4 hb4 hat4 _)
      go_roundw
      case rel =>
        refine ⟨k + 1, by omega, by go_num, ?_, hat4 _ _ _ (by decide) HA3.out, HB3.out.trans hb4⟩
        rw [HT.out]
        exact hown4
      case measure => simp [intOf]; omega
    · obtain rfl : k = l.length := by omega
      obtain ⟨mm, hmm⟩ : ∃ mm, mm = l.map negS := ⟨_, rfl⟩
      have hO := HO.out
      rw [List.take_length, ← hmm] at hO
      obtain ⟨A15, c15, rfl, hS15⟩ := hO.form
      have hml : mm.length = l.length := by rw [hmm, List.length_map]
      have HCO := Lib.hid (fun u (hu : Below wr.heap.size wr u) => compared_any a b x d (-x) (-d) (-a) (-b) A14 A15 c14 c15 l mm 21 #[] u ((HS2.out.by HB.out).by hu) (hS15.by hu) (by omega) hml (fun _ _ => by kernel_rfl) (by
        intro v _ i _ p q s t p' q' s' t' e1 e2
        have e3 := neg_take HNE.out (i + 1)
        rw [e1, ← hmm] at e3
        have e4 := e2.symm.trans e3.1
        simp only [negR, R.mk.injEq] at e4
        obtain ⟨rfl, rfl, rfl, rfl⟩ := e4
        rw [Array.append_empty]
        exact mirrored1_any _ _ _ _ _ e3.2))
      have HMS := Lib.hid (fun w => mirrored_near a b x d w ((nearAll_out HNE.out).1.mono (by omega)))
      clear hO hS15 hml HO hmm
      go_wp2_with fail
      refine wp_region_tail [[], [], [1], [], [], [0, 1, 2, 3, 4], [0, 1, 2, 3, 4, 5]] (by kernel_rfl) (by kernel_rfl) 7 rfl (by decide) (by decide) (by kernel_rfl)
        (fun L a' u => ∃ v12 v58 v59 v60 v61 v62 v63 : Value, a' = ⟨#[Value.slice A n c, Value.slice A0 n0 c0, Value.slice A1 n1 c1, Value.slice A2 n2 c2, Value.slice A3 n3 c3, Value.slice A4 n4 c4, undef, undef, undef, undef, undef, undef, v12, Value.pointer (some { block := w2.heap.size + 1, off := 0 }), Value.slice A14 l.length c14, Value.slice A15 mm.length c15, undef, u17, Value.slice A n c, Value.agg #[Value.int IntKind.i64 a, Value.int IntKind.i64 b, Value.int IntKind.i64 x, Value.int IntKind.i64 d], Value.slice A0 n0 c0, Value.slice A1 n1 c1, Value.slice A2 n2 c2, Value.slice A3 n3 c3, Value.slice A4 n4 c4, Value.slice A14 l.length c14, Value.slice (some { block := w2.heap.size, off := 0 }) 0 0, Value.agg #[Value.int IntKind.i64 a, Value.int IntKind.i64 b, Value.int IntKind.i64 x, Value.int IntKind.i64 d], Value.slice A14 l.length c14, Value.bool true, Value.bool false, Value.slice A14 l.length c14, Value.int IntKind.i64 ↑l.length, Value.int IntKind.i64 ↑l.length, Value.bool false, u35, u36, u37, u38, u39, u40, u41, u42, u43, u44, u45, u46, u47, u48, u49, u50, u51, u52, u53, u54, u55, u56, u57, v58, v59, v60, v61, v62, v63], []⟩ ∧
          Hid (L 0 = true → v58 = .agg #[.int .i64 a, .int .i64 b, .int .i64 x, .int .i64 d]) ∧ Hid (L 1 = true → v59 = .agg #[.int .i64 a, .int .i64 b, .int .i64 x, .int .i64 d]) ∧ Hid (L 2 = true → v60 = .agg #[.int .i64 (-x), .int .i64 (-d), .int .i64 (-a), .int .i64 (-b)]) ∧ Hid (L 3 = true → v61 = .slice A14 l.length c14) ∧ Hid (L 4 = true → v62 = .slice A15 mm.length c15) ∧ Hid (L 5 = true → v63 = .bool true) ∧ Hid (L 6 = true → v12 = .bool true) ∧ (Below wr.heap.size wr u)) ?_ ?_ ?_
      · refine ⟨_, _, _, _, _, _, _, rfl, (Lib.hid fun h => by cases h), (Lib.hid fun h => by cases h), (Lib.hid fun h => by cases h), (Lib.hid fun h => by cases h), (Lib.hid fun h => by cases h), (Lib.hid fun h => by cases h), (Lib.hid fun h => by cases h), ?_⟩
        exact (Below.refl _ _).drew
      · intro L a' u i hi hI hL hd
        obtain ⟨v12, v58, v59, v60, v61, v62, v63, rfl, k0, k1, k2, k3, k4, k5, k6, hW⟩ := hI
        obtain rfl | rfl | rfl | rfl | rfl | rfl | rfl : i = 0 ∨ i = 1 ∨ i = 2 ∨ i = 3 ∨ i = 4 ∨ i = 5 ∨ i = 6 := by omega
        · -- operation 0
          obtain ⟨c0, c1, c2, c3⟩ := (HA.out.by hW).four.1
          have HW := Lib.hid hW
          clear hW hL hd
          refine wpOp_step rfl fun K hK => ?_
          go_simp
          refine hK _ _ ⟨_, _, _, _, _, _, _, rfl, (Lib.hid fun _ => rfl), k1, k2, k3, k4, k5, k6, HW.out⟩
        · -- operation 1
          obtain ⟨c0, c1, c2, c3⟩ := (HA.out.by hW).four.1
          have HW := Lib.hid hW
          clear hW hL hd
          refine wpOp_step rfl fun K hK => ?_
          go_simp
          refine hK _ _ ⟨_, _, _, _, _, _, _, rfl, k0, (Lib.hid fun _ => rfl), k2, k3, k4, k5, k6, HW.out⟩
        · -- operation 2
          obtain rfl := k1.out (hd 1 (by decide))
          have HW := Lib.hid hW
          clear hW hL hd
          refine wpOp_step rfl fun K hK => ?_
          go_simp
          go_at_call 19
          refine (HMS.out _).mono ?_
          rintro _ w' ⟨rfl, hb⟩
          refine hK _ _ ⟨_, _, _, _, _, _, _, rfl, k0, k1, (Lib.hid fun _ => rfl), k3, k4, k5, k6, HW.out.trans (hb.mono HW.out.size)⟩
        · -- operation 3
          have HW := Lib.hid hW
          clear hW hL hd
          refine wpOp_step rfl fun K hK => ?_
          go_simp
          refine hK _ _ ⟨_, _, _, _, _, _, _, rfl, k0, k1, k2, (Lib.hid fun _ => rfl), k4, k5, k6, HW.out⟩
        · -- operation 4
          have HW := Lib.hid hW
          clear hW hL hd
          refine wpOp_step rfl fun K hK => ?_
          go_simp
          refine hK _ _ ⟨_, _, _, _, _, _, _, rfl, k0, k1, k2, k3, (Lib.hid fun _ => rfl), k5, k6, HW.out⟩
        · -- operation 5
          obtain rfl := k0.out (hd 0 (by decide))
          obtain rfl := k2.out (hd 2 (by decide))
          obtain rfl := k3.out (hd 3 (by decide))
          obtain rfl := k4.out (hd 4 (by decide))
          have HW := Lib.hid hW
          clear hW hL hd
          refine wpOp_step rfl fun K hK => ?_
          go_simp
          go_at_call 20
          refine (HCO.out _ HW.out).mono ?_
          rintro _ w' ⟨rfl, hb⟩
          refine hK _ _ ⟨_, _, _, _, _, _, _, rfl, k0, k1, k2, k3, k4, (Lib.hid fun _ => rfl), k6, HW.out.trans (hb.mono HW.out.size)⟩
        · -- operation 6
          obtain rfl := k5.out (hd 5 (by decide))
          have HW := Lib.hid hW
          clear hW hL hd
          refine wpOp_step rfl fun K hK => ?_
          go_simp
          refine hK _ _ ⟨_, _, _, _, _, _, _, rfl, k0, k1, k2, k3, k4, k5, (Lib.hid fun _ => rfl), HW.out⟩
      intro L a' u hI hall
      obtain ⟨v12, v58, v59, v60, v61, v62, v63, rfl, k0, k1, k2, k3, k4, k5, k6, hW⟩ := hI
      obtain rfl := k0.out (hall 0 (by decide))
      obtain rfl := k1.out (hall 1 (by decide))
      obtain rfl := k2.out (hall 2 (by decide))
      obtain rfl := k3.out (hall 3 (by decide))
      obtain rfl := k4.out (hall 4 (by decide))
      obtain rfl := k5.out (hall 5 (by decide))
      obtain rfl := k6.out (hall 6 (by decide))
      clear k0 k1 k2 k3 k4 k5 k6 hall
      show wpOps _ _ _ [] _ _
      unfold wpOps
      dsimp only
      have HW := Lib.hid hW
      clear hW
      go_wp2
      go_ret
      exact ⟨rfl, HB2.out.trans ((HB.out.trans (HW.out.mono HB.out.size)).mono HB2.out.size)⟩
end Go.Proofs.Ytenhhkeajhkfoaa
