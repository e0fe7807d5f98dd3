/- The walk of FnModularMeet. Conditions: none. -/
import Derived.Test.YtenhhkeajhkfoaaBoth
import Derived.Test.YtenhhkeajhkfoaaHas
import Derived.Test.YtenhhkeajhkfoaaPlainSub
namespace Go.Proofs.Ytenhhkeajhkfoaa
open Go.RowKit

theorem telle (a b c d e f g h : Int) (w : World) (v : Bool) (hv : R.sub ⟨a, b, c, d⟩ ⟨e, f, g, h⟩ = v) :
    Calls Try.prog 37 #[.agg #[.int .i64 0, .int .i64 0], .agg #[.int .i64 a, .int .i64 b, .int .i64 c, .int .i64 d], .agg #[.int .i64 e, .int .i64 f, .int .i64 g, .int .i64 h]] w fun x w' => ∃ v0 v2 v3 v4 v5 v6, x = .returned (.agg #[v0, .bool v, v2, v3, v4, v5, v6]) ∧ Below w.heap.size w w' :=
  (tell_any 0 0 a b c d e f g h w).mono fun _ _ ⟨h1, h2⟩ => ⟨_, _, _, _, _, _, by rw [← hv]; exact h1, h2⟩
theorem bothe (op a b c d e f g h : Int) (m : R) (hm : stepR op 0 0 0 ⟨e, f, g, h⟩ ⟨a, b, c, d⟩ = m) (w : World) :
    Calls Try.prog 34 #[.int .i64 op, .agg #[.int .i64 a, .int .i64 b, .int .i64 c, .int .i64 d], .agg #[.int .i64 e, .int .i64 f, .int .i64 g, .int .i64 h]] w (RetB m w) := hm ▸ both_any op a b c d e f g h w

set_option maxHeartbeats 8000000 in
theorem modular_walk (A1 A2 A3 : Option Addr) (n1 c1 n2 c2 n3 c3 : Nat) (z1 z2 z3 : List Int) (w : World) (h1 : Ints w A1 n1 z1) (h2 : Ints w A2 n2 z2) (h3 : Ints w A3 n3 z3) :
    Calls Try.prog 11 #[.slice A1 n1 c1, .slice A2 n2 c2, .slice A3 n3 c3] w fun e w' => e = .returned (.bool true) ∧ Below w.heap.size w w' := by
  have L1 := fun u hu => lrect_any A1 n1 c1 z1 u hu
  have L2 := fun u hu => lrect_any A2 n2 c2 z2 u hu
  have L3 := fun u hu => lrect_any A3 n3 c3 z3 u hu
  generalize rectOf z1 = r at L1
  generalize rectOf z2 = s at L2
  generalize rectOf z3 = t at L3
  obtain ⟨lw1, lw2⟩ := modular r s t
  obtain ⟨a, b, c, d⟩ := r
  obtain ⟨e, f, g, h⟩ := s
  obtain ⟨i, j, k, l⟩ := t
  obtain ⟨⟨a1, b1, x1, d1⟩, m1⟩ : ∃ m : R, stepR 4 0 0 0 ⟨i, j, k, l⟩ ⟨a, b, c, d⟩ = m := ⟨_, rfl⟩
  obtain ⟨⟨a2, b2, x2, d2⟩, m2⟩ : ∃ m : R, stepR 4 0 0 0 ⟨i, j, k, l⟩ ⟨e, f, g, h⟩ = m := ⟨_, rfl⟩
  obtain ⟨⟨a3, b3, x3, d3⟩, m3⟩ : ∃ m : R, stepR 5 0 0 0 ⟨a2, b2, x2, d2⟩ ⟨a1, b1, x1, d1⟩ = m := ⟨_, rfl⟩
  obtain ⟨⟨a4, b4, x4, d4⟩, m4⟩ : ∃ m : R, stepR 5 0 0 0 ⟨e, f, g, h⟩ ⟨a1, b1, x1, d1⟩ = m := ⟨_, rfl⟩
  have e1 : inter ⟨a, b, c, d⟩ ⟨i, j, k, l⟩ = ⟨a1, b1, x1, d1⟩ := m1
  have e2 : inter ⟨e, f, g, h⟩ ⟨i, j, k, l⟩ = ⟨a2, b2, x2, d2⟩ := m2
  have e3 : union ⟨a1, b1, x1, d1⟩ ⟨a2, b2, x2, d2⟩ = ⟨a3, b3, x3, d3⟩ := m3
  have e4 : union ⟨a1, b1, x1, d1⟩ ⟨e, f, g, h⟩ = ⟨a4, b4, x4, d4⟩ := m4
  rw [e1, e2, e3] at lw1
  rw [e1, e2, e3, e4] at lw2
  have HL1 := Lib.hid L1
  have HL2 := Lib.hid L2
  have HL3 := Lib.hid L3
  have H1 := Lib.hid h1
  have H2 := Lib.hid h2
  have H3 := Lib.hid h3
  have M1 := Lib.hid m1
  have M2 := Lib.hid m2
  have M3 := Lib.hid m3
  have M4 := Lib.hid m4
  have LW1 := Lib.hid lw1
  have LW2 := Lib.hid lw2
  clear L1 L2 L3 h1 h2 h3 m1 m2 m3 m4 lw1 lw2 e1 e2 e3 e4
  have hf := told1
  go_enter Try.func11, Try.ntmps11
  go_wp2_with fail
  refine (HL1.out _ H1.out).mono ?_
  rintro _ w1 ⟨rfl, hb1⟩
  have HB1 := Lib.hid hb1
  clear hb1
  go_wp2_with fail
  refine (HL2.out _ (H2.out.below (Nat.le_refl _) HB1.out)).mono ?_
  rintro _ w2 ⟨rfl, hb2⟩
  have HB2 := Lib.hid (HB1.out.trans (hb2.mono HB1.out.size))
  clear hb2 HB1
  go_wp2_with fail
  refine (HL3.out _ (H3.out.below (Nat.le_refl _) HB2.out)).mono ?_
  rintro _ w3 ⟨rfl, hb3⟩
  have HB3 := Lib.hid (HB2.out.trans (hb3.mono HB2.out.size))
  clear hb3 HB2 HL1 HL2 HL3 H1 H2 H3
  go_wp2_with fail
  refine (bothe 4 a b c d i j k l _ M1.out _).mono ?_
  rintro _ w4 ⟨rfl, hb4⟩
  have hA : Ats [(w3.heap.size, 25, [.int .i64 a, .int .i64 b, .int .i64 c, .int .i64 d]), (w3.heap.size + 1, 25, [.int .i64 e, .int .i64 f, .int .i64 g, .int .i64 h]), (w3.heap.size + 1 + 1, 25, [.int .i64 i, .int .i64 j, .int .i64 k, .int .i64 l])] w3 w4 := by
    refine Ats.by ?_ hb4
    refine Ats.cons ?_ (Ats.cons ?_ (Ats.cons ?_ (Ats.nil ?_)))
    · (repeat first | exact At.new' _ _ _ (by first | rfl | (simp only [size_alloc])) | refine At.drew ?_ | refine At.alloc ?_ _)
    · (repeat first | exact At.new' _ _ _ (by first | rfl | (simp only [size_alloc])) | refine At.drew ?_ | refine At.alloc ?_ _)
    · (repeat first | exact At.new' _ _ _ (by first | rfl | (simp only [size_alloc])) | refine At.drew ?_ | refine At.alloc ?_ _)
    · (repeat first | exact Below.refl _ _ | refine Below.drew ?_ | refine Below.alloc ?_ (by first | exact Nat.le_refl _ | (simp only [size_alloc]; omega)) _)
  have h7 := hA.nth 0 rfl
  have h8 := hA.nth 1 rfl
  have h9 := hA.nth 2 rfl
  have hB4 := hA.2
  have h7' := h7.set4 (.int .i64 a1) (.int .i64 b1) (.int .i64 x1) (.int .i64 d1)
  have h8' := h8.far4 (g' := w3.heap.size) (by omega) (.int .i64 a1) (.int .i64 b1) (.int .i64 x1) (.int .i64 d1)
  have h9' := h9.far4 (g' := w3.heap.size) (by omega) (.int .i64 a1) (.int .i64 b1) (.int .i64 x1) (.int .i64 d1)
  have hB4' := below_set4 hB4 (Nat.le_refl _) (.int .i64 a1) (.int .i64 b1) (.int .i64 x1) (.int .i64 d1)
  obtain ⟨⟨p0, p1, p2, p3⟩, q0, q1, q2, q3⟩ := h7.four
  obtain ⟨⟨s0, s1, s2, s3⟩, -⟩ := h8'.four
  obtain ⟨⟨t0, t1, t2, t3⟩, -⟩ := h9'.four
  have HH := Lib.hid (And.intro h7' (And.intro h8' (And.intro h9' hB4')))
  clear hA h7 h8 h9 hB4 h7' h8' h9' hB4' hb4
  go_wp2_with fail
  refine (bothe 4 e f g h i j k l _ M2.out _).mono ?_
  rintro _ w5 ⟨rfl, hb5⟩
  clear p0 p1 p2 p3 q0 q1 q2 q3 s0 s1 s2 s3 t0 t1 t2 t3
  have HH2 := Lib.hid (And.intro (HH.out.1.by hb5) (And.intro (HH.out.2.1.by hb5) (And.intro (HH.out.2.2.1.by hb5) (HH.out.2.2.2.trans (hb5.mono HH.out.2.2.2.size)))))
  obtain ⟨⟨p0, p1, p2, p3⟩, -⟩ := HH2.out.1.four
  have lt1 := HH2.out.1.lt
  clear HH hb5
  go_wp2_with fail
  refine (bothe 5 a1 b1 x1 d1 a2 b2 x2 d2 _ M3.out _).mono ?_
  rintro _ w6 ⟨rfl, hb6⟩
  have HH3 := Lib.hid (HH2.out.1.alloc (.cells #[.int .i64 a2, .int .i64 b2, .int .i64 x2, .int .i64 d2] 25) |>.by hb6)
  have HH4 := Lib.hid (HH2.out.2.1.alloc (.cells #[.int .i64 a2, .int .i64 b2, .int .i64 x2, .int .i64 d2] 25) |>.by hb6)
  have HH5 := Lib.hid (HH2.out.2.2.1.alloc (.cells #[.int .i64 a2, .int .i64 b2, .int .i64 x2, .int .i64 d2] 25) |>.by hb6)
  have HB6 := Lib.hid ((HH2.out.2.2.2.alloc HH2.out.2.2.2.size (.cells #[.int .i64 a2, .int .i64 b2, .int .i64 x2, .int .i64 d2] 25)).trans (hb6.mono (by rw [size_alloc]; have := HH2.out.2.2.2.size; omega)))
  clear p0 p1 p2 p3 HH2 hb6 lt1
  obtain ⟨⟨p0, p1, p2, p3⟩, -⟩ := HH3.out.four
  obtain ⟨⟨s0, s1, s2, s3⟩, -⟩ := HH4.out.four
  have lt1 := HH3.out.lt
  have lt2 := HH4.out.lt
  go_wp2_with fail
  refine (bothe 5 a1 b1 x1 d1 e f g h _ M4.out _).mono ?_
  rintro _ w7 ⟨rfl, hb7⟩
  clear p0 p1 p2 p3 s0 s1 s2 s3 HH3 HH4 lt1 lt2
  have h9 := (HH5.out.alloc (.cells #[.int .i64 a3, .int .i64 b3, .int .i64 x3, .int .i64 d3] 25)).by hb7
  have h13 := (At.new w6 25 [.int .i64 a3, .int .i64 b3, .int .i64 x3, .int .i64 d3]).by hb7
  have HB7 := Lib.hid ((HB6.out.alloc HB6.out.size (.cells #[.int .i64 a3, .int .i64 b3, .int .i64 x3, .int .i64 d3] 25)).trans (hb7.mono (by rw [size_alloc]; have := HB6.out.size; omega)))
  clear HB6 HH5 hb7
  obtain ⟨⟨p0, p1, p2, p3⟩, -⟩ := h9.four
  obtain ⟨⟨s0, s1, s2, s3⟩, -⟩ := h13.four
  have H13 := Lib.hid h13
  have lt1 := h9.lt
  have lt2 := h13.lt
  clear h9 h13
  go_wp2_with fail
  refine (telle a3 b3 x3 d3 i j k l _ _ LW1.out).mono ?_
  rintro _ w8 ⟨v0, v2, v3, v4, v5, v6, rfl, hb8⟩
  clear p0 p1 p2 p3 s0 s1 s2 s3 lt1 lt2
  have h13 := (H13.out.alloc (.cells #[.int .i64 a4, .int .i64 b4, .int .i64 x4, .int .i64 d4] 25)).by hb8
  have h15 := (At.new w7 25 [.int .i64 a4, .int .i64 b4, .int .i64 x4, .int .i64 d4]).by hb8
  have HB8 := Lib.hid ((HB7.out.alloc HB7.out.size (.cells #[.int .i64 a4, .int .i64 b4, .int .i64 x4, .int .i64 d4] 25)).trans (hb8.mono (by rw [size_alloc]; have := HB7.out.size; omega)))
  clear HB7 hb8 H13
  obtain ⟨⟨p0, p1, p2, p3⟩, -⟩ := h13.four
  obtain ⟨⟨s0, s1, s2, s3⟩, -⟩ := h15.four
  clear h13 h15
  go_wp2_with fail
  refine (telle a3 b3 x3 d3 a4 b4 x4 d4 _ _ LW2.out).mono ?_
  rintro _ w9 ⟨u0, u2, u3, u4, u5, u6, rfl, hb9⟩
  have HB9 := Lib.hid (HB3.out.trans ((HB8.out.trans (hb9.mono HB8.out.size)).mono HB3.out.size))
  clear HB8 hb9 p0 p1 p2 p3 s0 s1 s2 s3
  go_wp2
  go_ret
  exact ⟨rfl, HB9.out⟩
end Go.Proofs.Ytenhhkeajhkfoaa
