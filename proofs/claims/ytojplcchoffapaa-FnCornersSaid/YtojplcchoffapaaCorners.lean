/- The walk of FnCorners. Conditions: none. -/
import Derived.Test.YtojplcchoffapaaHas
import Derived.Test.YtojplcchoffapaaAts
namespace Go.Proofs.Ytojplcchoffapaa
open Go.RowKit

theorem has_eq (a b c d x y : Int) (w : World) (v : Bool) (hv : inB x y a b c d = v) : Calls Try.prog 17 #[.agg #[.int .i64 a, .int .i64 b, .int .i64 c, .int .i64 d], .int .i64 x, .int .i64 y] w fun e w' => e = .returned (.bool v) ∧ Below w.heap.size w w' := hv ▸ has_any a b c d x y w
/-- the plain law: no points -/
theorem corner_empty {a b c d : Int} (e f g h mx my : Int) (hE : emptyB a b c d = true) :
    R.has ⟨a, b, c, d⟩ a b = false ∧ R.sub ⟨a, b, c, d⟩ ⟨e, f, g, h⟩ = true ∧ R.over ⟨a, b, c, d⟩ ⟨e, f, g, h⟩ = false ∧ inB mx my a b c d = false := by
  simp only [R.has, R.sub, R.over, inB, subB, overB, hE]
  simp only [emptyB, Bool.or_eq_true, decide_eq_true_eq] at hE
  refine ⟨?_, by simp, by simp, ?_⟩
  · simp; omega
  · simp; omega
/-- the plain law: some points -/
theorem corner_some {a b c d : Int} (e f g h mx my : Int) (hE : emptyB a b c d = false) (hmx : mx = if a < e then e else a) (hmy : my = if b < f then f else b) :
    R.has ⟨a, b, c, d⟩ a b = true ∧ R.sub ⟨a, b, c, d⟩ ⟨e, f, g, h⟩ = (inB a b e f g h && inB (c - 1) (d - 1) e f g h) ∧ R.over ⟨a, b, c, d⟩ ⟨e, f, g, h⟩ = (inB mx my a b c d && inB mx my e f g h) := by
  simp only [emptyB, Bool.or_eq_false_iff, decide_eq_false_iff_not] at hE
  refine ⟨?_, ?_, ?_⟩
  · simp only [R.has, inB, Bool.and_eq_true, decide_eq_true_eq]
    omega
  · rw [Bool.eq_iff_iff]
    simp only [R.sub, subB, emptyB, inB, Bool.and_eq_true, Bool.or_eq_true, decide_eq_true_eq]
    omega
  · subst hmx hmy
    rw [Bool.eq_iff_iff]
    simp only [R.over, overB, emptyB, inB, Bool.and_eq_true, Bool.not_eq_true', Bool.or_eq_false_iff, decide_eq_true_eq, decide_eq_false_iff_not]
    split <;> split <;> omega

set_option maxHeartbeats 8000000 in
theorem corners_walk (A1 A2 : Option Addr) (n1 c1 n2 c2 : Nat) (z1 z2 : List Int) (w : World) (h1 : Ints w A1 n1 z1) (h2 : Ints w A2 n2 z2)
    (hc : -9223372036854775808 ≤ (rectOf z1).x0 ∧ -9223372036854775808 ≤ (rectOf z1).y0 ∧ (rectOf z1).x1 ≤ 9223372036854775807 ∧ (rectOf z1).y1 ≤ 9223372036854775807) :
    Calls Try.prog 3 #[.slice A1 n1 c1, .slice A2 n2 c2] w fun e w' => e = .returned (.bool true) ∧ Below w.heap.size w w' := by
  have L1 := fun u hu => lrect_any A1 n1 c1 z1 u hu
  have L2 := fun u hu => lrect_any A2 n2 c2 z2 u hu
  generalize rectOf z1 = r at L1 hc
  generalize rectOf z2 = s at L2
  obtain ⟨a, b, c, d⟩ := r
  obtain ⟨e, f, g, h⟩ := s
  have HL1 := Lib.hid L1
  have HL2 := Lib.hid L2
  have H1 := Lib.hid h1
  have H2 := Lib.hid h2
  have HC := Lib.hid hc
  clear L1 L2 h1 h2 hc
  go_enter Try.func3, Try.ntmps3
  go_wp2_with fail
  refine (HL1.out _ H1.out).mono ?_
  rintro _ w1 ⟨rfl, hb1⟩
  have HB1 := Lib.hid hb1
  clear hb1
  go_wp2_with fail
  refine (HL2.out _ (H2.out.below (Nat.le_refl _) HB1.out)).mono ?_
  rintro _ w2 ⟨rfl, hb2⟩
  have HB2 := Lib.hid (HB1.out.trans (hb2.mono HB1.out.size))
  clear hb2 HB1 HL1 HL2 H1 H2
  go_wp2_with fail
  refine (tell_any _ _ _ _ _ _ _ _ _ _ _).mono ?_
  rintro _ w3 ⟨rfl, hb3⟩
  have h5 := ((At.new w2 24 [.int .i64 a, .int .i64 b, .int .i64 c, .int .i64 d]).alloc (.cells #[.int .i64 e, .int .i64 f, .int .i64 g, .int .i64 h] 24)).by hb3
  have h6 := (At.new (w2.alloc (.cells #[.int .i64 a, .int .i64 b, .int .i64 c, .int .i64 d] 24)) 24 [.int .i64 e, .int .i64 f, .int .i64 g, .int .i64 h]).by hb3
  rw [size_alloc] at h6
  have hB3 := (((HB2.out.alloc HB2.out.size (.cells #[.int .i64 a, .int .i64 b, .int .i64 c, .int .i64 d] 24)).alloc (by rw [size_alloc]; have := HB2.out.size; omega) (.cells #[.int .i64 e, .int .i64 f, .int .i64 g, .int .i64 h] 24)).trans (hb3.mono (by simp only [size_alloc]; have := HB2.out.size; omega)))
  dsimp only at *
  have hEq : ∃ tE, Hid (emptyB a b c d = tE) := ⟨_, Lib.hid rfl⟩
  obtain ⟨tE, hEE⟩ := hEq
  have hE' : R.empty ⟨a, b, c, d⟩ = tE := hEE.out
  generalize hI : R.has ⟨a, b, c, d⟩ a b = tI
  generalize hW' : R.sub ⟨a, b, c, d⟩ ⟨e, f, g, h⟩ = tW
  generalize hO : R.over ⟨a, b, c, d⟩ ⟨e, f, g, h⟩ = tO
  rw [hE']
  clear hE'
  generalize R.same ⟨a, b, c, d⟩ ⟨e, f, g, h⟩ = tS
  generalize wrap64 (c - a) = tx
  generalize wrap64 (d - b) = ty
  have hA : Ats [(w2.heap.size, 24, [.int .i64 a, .int .i64 b, .int .i64 c, .int .i64 d]), (w2.heap.size + 1, 24, [.int .i64 e, .int .i64 f, .int .i64 g, .int .i64 h]), (w3.heap.size, 29, [.bool tI, .bool tW, .bool tO, .bool tE, .bool tS, .int .i64 tx, .int .i64 ty])] w (w3.alloc (.cells #[.bool tI, .bool tW, .bool tO, .bool tE, .bool tS, .int .i64 tx, .int .i64 ty] 29)) :=
    Ats.cons (h5.alloc _) (Ats.cons (h6.alloc _) (Ats.cons (At.new _ _ _) (Ats.nil (hB3.alloc hB3.size _))))
  have hIE : (tI == tE) = false := by
    rw [← hI]
    cases tE with
    | true => rw [(corner_empty (a := a) (b := b) (c := c) (d := d) 0 0 0 0 0 0 hEE.out).1]; rfl
    | false => rw [(corner_some (a := a) (b := b) (c := c) (d := d) 0 0 0 0 _ _ hEE.out rfl rfl).1]; rfl
  have HI := Lib.hid hI
  have HW' := Lib.hid hW'
  have HO := Lib.hid hO
  have HA := Lib.hid hA
  clear hI hW' hO hA h5 h6 hb3 hB3 HB2
  go_wp2_with fail
  have hA := HA.out
  clear HA
  refine wp_region_tail [[], [0], [], [2], [0, 1, 2, 3], [], [5], [], [7], [5, 6, 7, 8], [0, 1, 2, 3, 4], [0, 1, 2, 3, 4, 5, 6, 7, 8, 9, 10]] (by kernel_rfl) (by kernel_rfl) 12 rfl (by decide) (by decide) (by kernel_rfl)
    (fun L a' u => ∃ v8 v9 v27 v28 v29 v30 v31 v32 v33 v34 v35 v36 : Value, a' = ⟨#[.slice A1 n1 c1, .slice A2 n2 c2, undef, undef, .bool false, .pointer (some ⟨w2.heap.size, 0, none⟩), .pointer (some ⟨w2.heap.size + 1, 0, none⟩), .pointer (some ⟨w3.heap.size, 0, none⟩), v8, v9, .slice A1 n1 c1, .agg #[.int .i64 a, .int .i64 b, .int .i64 c, .int .i64 d], .slice A2 n2 c2, .agg #[.int .i64 e, .int .i64 f, .int .i64 g, .int .i64 h], .pointer (some ⟨w2.heap.size, 0, none⟩), .int .i64 (a), .pointer (some ⟨w2.heap.size, 1, none⟩), .int .i64 (b), .agg #[.int .i64 a, .int .i64 b], .agg #[.int .i64 a, .int .i64 b, .int .i64 c, .int .i64 d], .agg #[.int .i64 e, .int .i64 f, .int .i64 g, .int .i64 h], .agg #[.bool tI, .bool tW, .bool tO, .bool tE, .bool tS, .int .i64 tx, .int .i64 ty], .pointer (some ⟨w3.heap.size, 0, none⟩), .bool tI, .pointer (some ⟨w3.heap.size, 3, none⟩), .bool tE, .bool false, v27, v28, v29, v30, v31, v32, v33, v34, v35, v36, undef, undef, undef, undef, undef, undef, undef, undef, undef, undef, undef, undef, undef, undef, undef, undef, undef, undef, undef, undef, undef, undef, undef, undef, undef, undef, undef, undef, undef, undef, undef, undef, undef, undef, undef, undef, undef, undef, undef, undef, undef], []⟩ ∧
      Hid (L 0 = true → v27 = .pointer (some ⟨w2.heap.size, 0, none⟩)) ∧ Hid (L 1 = true → v28 = .int .i64 (a)) ∧ Hid (L 2 = true → v29 = .pointer (some ⟨w2.heap.size + 1, 0, none⟩)) ∧ Hid (L 3 = true → v30 = .int .i64 (e)) ∧ Hid (L 4 = true → v31 = .int .i64 (if a < e then e else a)) ∧ Hid (L 5 = true → v32 = .pointer (some ⟨w2.heap.size, 1, none⟩)) ∧ Hid (L 6 = true → v33 = .int .i64 (b)) ∧ Hid (L 7 = true → v34 = .pointer (some ⟨w2.heap.size + 1, 1, none⟩)) ∧ Hid (L 8 = true → v35 = .int .i64 (f)) ∧ Hid (L 9 = true → v36 = .int .i64 (if b < f then f else b)) ∧ Hid (L 10 = true → v8 = .int .i64 (if a < e then e else a)) ∧ Hid (L 11 = true → v9 = .int .i64 (if b < f then f else b)) ∧ (Ats [(w2.heap.size, 24, [.int .i64 a, .int .i64 b, .int .i64 c, .int .i64 d]), (w2.heap.size + 1, 24, [.int .i64 e, .int .i64 f, .int .i64 g, .int .i64 h]), (w3.heap.size, 29, [.bool tI, .bool tW, .bool tO, .bool tE, .bool tS, .int .i64 tx, .int .i64 ty])] w u)) ?_ ?_ ?_
  · refine ⟨_, _, _, _, _, _, _, _, _, _, _, _, rfl, (Lib.hid fun h => by cases h), (Lib.hid fun h => by cases h), (Lib.hid fun h => by cases h), (Lib.hid fun h => by cases h), (Lib.hid fun h => by cases h), (Lib.hid fun h => by cases h), (Lib.hid fun h => by cases h), (Lib.hid fun h => by cases h), (Lib.hid fun h => by cases h), (Lib.hid fun h => by cases h), (Lib.hid fun h => by cases h), (Lib.hid fun h => by cases h), ?_⟩
    exact hA.drew
  · intro L a' u i hi hI hL hd
    obtain ⟨v8, v9, v27, v28, v29, v30, v31, v32, v33, v34, v35, v36, rfl, k0, k1, k2, k3, k4, k5, k6, k7, k8, k9, k10, k11, hW⟩ := hI
    obtain rfl | rfl | rfl | rfl | rfl | rfl | rfl | rfl | rfl | rfl | rfl | rfl : i = 0 ∨ i = 1 ∨ i = 2 ∨ i = 3 ∨ i = 4 ∨ i = 5 ∨ i = 6 ∨ i = 7 ∨ i = 8 ∨ i = 9 ∨ i = 10 ∨ i = 11 := by omega
    · -- operation 0
      have HW := Lib.hid hW
      clear hW hL hd
      refine wpOp_step rfl fun K hK => ?_
      go_simp
      refine hK _ _ ⟨_, _, _, _, _, _, _, _, _, _, _, _, rfl, (Lib.hid fun _ => rfl), k1, k2, k3, k4, k5, k6, k7, k8, k9, k10, k11, HW.out⟩
    · -- operation 1
      obtain rfl := k0.out (hd 0 (by decide))
      obtain ⟨c0, c1, c2, c3⟩ := (hW.nth 0 rfl).four.1
      have HW := Lib.hid hW
      clear hW hL hd
      refine wpOp_step rfl fun K hK => ?_
      go_simp
      refine hK _ _ ⟨_, _, _, _, _, _, _, _, _, _, _, _, rfl, k0, (Lib.hid fun _ => rfl), k2, k3, k4, k5, k6, k7, k8, k9, k10, k11, HW.out⟩
    · -- operation 2
      have HW := Lib.hid hW
      clear hW hL hd
      refine wpOp_step rfl fun K hK => ?_
      go_simp
      refine hK _ _ ⟨_, _, _, _, _, _, _, _, _, _, _, _, rfl, k0, k1, (Lib.hid fun _ => rfl), k3, k4, k5, k6, k7, k8, k9, k10, k11, HW.out⟩
    · -- operation 3
      obtain rfl := k2.out (hd 2 (by decide))
      obtain ⟨c0, c1, c2, c3⟩ := (hW.nth 1 rfl).four.1
      have HW := Lib.hid hW
      clear hW hL hd
      refine wpOp_step rfl fun K hK => ?_
      go_simp
      refine hK _ _ ⟨_, _, _, _, _, _, _, _, _, _, _, _, rfl, k0, k1, k2, (Lib.hid fun _ => rfl), k4, k5, k6, k7, k8, k9, k10, k11, HW.out⟩
    · -- operation 4
      obtain rfl := k0.out (hd 0 (by decide))
      obtain rfl := k1.out (hd 1 (by decide))
      obtain rfl := k2.out (hd 2 (by decide))
      obtain rfl := k3.out (hd 3 (by decide))
      have HW := Lib.hid hW
      clear hW hL hd
      refine wpOp_step rfl fun K hK => ?_
      go_simp
      refine hK _ _ ⟨_, _, _, _, _, _, _, _, _, _, _, _, rfl, k0, k1, k2, k3, (Lib.hid fun _ => rfl), k5, k6, k7, k8, k9, k10, k11, HW.out⟩
    · -- operation 5
      have HW := Lib.hid hW
      clear hW hL hd
      refine wpOp_step rfl fun K hK => ?_
      go_simp
      refine hK _ _ ⟨_, _, _, _, _, _, _, _, _, _, _, _, rfl, k0, k1, k2, k3, k4, (Lib.hid fun _ => rfl), k6, k7, k8, k9, k10, k11, HW.out⟩
    · -- operation 6
      obtain rfl := k5.out (hd 5 (by decide))
      obtain ⟨c0, c1, c2, c3⟩ := (hW.nth 0 rfl).four.1
      have HW := Lib.hid hW
      clear hW hL hd
      refine wpOp_step rfl fun K hK => ?_
      go_simp
      refine hK _ _ ⟨_, _, _, _, _, _, _, _, _, _, _, _, rfl, k0, k1, k2, k3, k4, k5, (Lib.hid fun _ => rfl), k7, k8, k9, k10, k11, HW.out⟩
    · -- operation 7
      have HW := Lib.hid hW
      clear hW hL hd
      refine wpOp_step rfl fun K hK => ?_
      go_simp
      refine hK _ _ ⟨_, _, _, _, _, _, _, _, _, _, _, _, rfl, k0, k1, k2, k3, k4, k5, k6, (Lib.hid fun _ => rfl), k8, k9, k10, k11, HW.out⟩
    · -- operation 8
      obtain rfl := k7.out (hd 7 (by decide))
      obtain ⟨c0, c1, c2, c3⟩ := (hW.nth 1 rfl).four.1
      have HW := Lib.hid hW
      clear hW hL hd
      refine wpOp_step rfl fun K hK => ?_
      go_simp
      refine hK _ _ ⟨_, _, _, _, _, _, _, _, _, _, _, _, rfl, k0, k1, k2, k3, k4, k5, k6, k7, (Lib.hid fun _ => rfl), k9, k10, k11, HW.out⟩
    · -- operation 9
      obtain rfl := k5.out (hd 5 (by decide))
      obtain rfl := k6.out (hd 6 (by decide))
      obtain rfl := k7.out (hd 7 (by decide))
      obtain rfl := k8.out (hd 8 (by decide))
      have HW := Lib.hid hW
      clear hW hL hd
      refine wpOp_step rfl fun K hK => ?_
      go_simp
      refine hK _ _ ⟨_, _, _, _, _, _, _, _, _, _, _, _, rfl, k0, k1, k2, k3, k4, k5, k6, k7, k8, (Lib.hid fun _ => rfl), k10, k11, HW.out⟩
    · -- operation 10
      obtain rfl := k0.out (hd 0 (by decide))
      obtain rfl := k1.out (hd 1 (by decide))
      obtain rfl := k2.out (hd 2 (by decide))
      obtain rfl := k3.out (hd 3 (by decide))
      obtain rfl := k4.out (hd 4 (by decide))
      have HW := Lib.hid hW
      clear hW hL hd
      refine wpOp_step rfl fun K hK => ?_
      go_simp
      refine hK _ _ ⟨_, _, _, _, _, _, _, _, _, _, _, _, rfl, k0, k1, k2, k3, k4, k5, k6, k7, k8, k9, (Lib.hid fun _ => rfl), k11, HW.out⟩
    · -- operation 11
      obtain rfl := k0.out (hd 0 (by decide))
      obtain rfl := k1.out (hd 1 (by decide))
      obtain rfl := k2.out (hd 2 (by decide))
      obtain rfl := k3.out (hd 3 (by decide))
      obtain rfl := k4.out (hd 4 (by decide))
      obtain rfl := k5.out (hd 5 (by decide))
      obtain rfl := k6.out (hd 6 (by decide))
      obtain rfl := k7.out (hd 7 (by decide))
      obtain rfl := k8.out (hd 8 (by decide))
      obtain rfl := k9.out (hd 9 (by decide))
      obtain rfl := k10.out (hd 10 (by decide))
      have HW := Lib.hid hW
      clear hW hL hd
      refine wpOp_step rfl fun K hK => ?_
      go_simp
      refine hK _ _ ⟨_, _, _, _, _, _, _, _, _, _, _, _, rfl, k0, k1, k2, k3, k4, k5, k6, k7, k8, k9, k10, (Lib.hid fun _ => rfl), HW.out⟩
  intro L a' u hI hall
  obtain ⟨v8, v9, v27, v28, v29, v30, v31, v32, v33, v34, v35, v36, rfl, k0, k1, k2, k3, k4, k5, k6, k7, k8, k9, k10, k11, hW⟩ := hI
  obtain rfl := k0.out (hall 0 (by decide))
  obtain rfl := k1.out (hall 1 (by decide))
  obtain rfl := k2.out (hall 2 (by decide))
  obtain rfl := k3.out (hall 3 (by decide))
  obtain rfl := k4.out (hall 4 (by decide))
  obtain rfl := k5.out (hall 5 (by decide))
  obtain rfl := k6.out (hall 6 (by decide))
  obtain rfl := k7.out (hall 7 (by decide))
  obtain rfl := k8.out (hall 8 (by decide))
  obtain rfl := k9.out (hall 9 (by decide))
  obtain rfl := k10.out (hall 10 (by decide))
  obtain rfl := k11.out (hall 11 (by decide))
  clear k0 k1 k2 k3 k4 k5 k6 k7 k8 k9 k10 k11 hall
  show wpOps _ _ _ [] _ _
  unfold wpOps
  dsimp only
  have HA := Lib.hid hW
  clear hW hA
  obtain ⟨mx, hmx⟩ : ∃ m, m = if a < e then e else a := ⟨_, rfl⟩
  obtain ⟨my, hmy⟩ : ∃ m, m = if b < f then f else b := ⟨_, rfl⟩
  rw [← hmx, ← hmy]
  have HX := Lib.hid hmx
  have HY := Lib.hid hmy
  clear hmx hmy
  obtain ⟨p, hp⟩ : ∃ p, Hid (inB mx my a b c d = p) := ⟨_, Lib.hid rfl⟩
  obtain ⟨q, hq⟩ : ∃ q, Hid (inB mx my e f g h = q) := ⟨_, Lib.hid rfl⟩
  obtain ⟨u', hu⟩ : ∃ q, Hid (inB a b e f g h = q) := ⟨_, Lib.hid rfl⟩
  obtain ⟨v, hv⟩ : ∃ q, Hid (inB (c - 1) (d - 1) e f g h = q) := ⟨_, Lib.hid rfl⟩
  cases tE with
  | true =>
    obtain ⟨e1, e2, e3, e4⟩ := corner_empty e f g h mx my hEE.out
    obtain rfl : tI = false := HI.out.symm.trans e1
    obtain rfl : tW = true := HW'.out.symm.trans e2
    obtain rfl : tO = false := HO.out.symm.trans e3
    obtain rfl : p = false := hp.out.symm.trans e4
    clear e1 e2 e3 e4 hIE HI HW' HO HX HY
    go_wp2_with fail
    have hA := HA.out
    clear HA
    refine wp_region_tail [[], [0], [], [], [], [2, 3, 4], [2, 3, 4, 5], [2, 3, 4, 5, 6], [2, 3, 4, 5, 6], [2, 3, 4, 5, 6], [2, 3, 4, 5, 6, 7, 8, 9], [2, 3, 4, 5, 6, 7, 8, 9, 10], [0, 1, 2, 3, 4, 5, 6, 7, 8, 9, 10, 11]] (by kernel_rfl) (by kernel_rfl) 13 rfl (by decide) (by decide) (by kernel_rfl)
      (fun L a' u => ∃ v37 v38 v39 v40 v41 v42 v43 v44 v45 v46 v47 v48 v49 : Value, a' = ⟨#[.slice A1 n1 c1, .slice A2 n2 c2, undef, undef, .bool false, .pointer (some ⟨w2.heap.size, 0, none⟩), .pointer (some ⟨w2.heap.size + 1, 0, none⟩), .pointer (some ⟨w3.heap.size, 0, none⟩), .int .i64 (mx), .int .i64 (my), .slice A1 n1 c1, .agg #[.int .i64 a, .int .i64 b, .int .i64 c, .int .i64 d], .slice A2 n2 c2, .agg #[.int .i64 e, .int .i64 f, .int .i64 g, .int .i64 h], .pointer (some ⟨w2.heap.size, 0, none⟩), .int .i64 (a), .pointer (some ⟨w2.heap.size, 1, none⟩), .int .i64 (b), .agg #[.int .i64 a, .int .i64 b], .agg #[.int .i64 a, .int .i64 b, .int .i64 c, .int .i64 d], .agg #[.int .i64 e, .int .i64 f, .int .i64 g, .int .i64 h], .agg #[.bool false, .bool true, .bool false, .bool true, .bool tS, .int .i64 tx, .int .i64 ty], .pointer (some ⟨w3.heap.size, 0, none⟩), .bool false, .pointer (some ⟨w3.heap.size, 3, none⟩), .bool true, .bool false, .pointer (some ⟨w2.heap.size, 0, none⟩), .int .i64 (a), .pointer (some ⟨w2.heap.size + 1, 0, none⟩), .int .i64 (e), .int .i64 (mx), .pointer (some ⟨w2.heap.size, 1, none⟩), .int .i64 (b), .pointer (some ⟨w2.heap.size + 1, 1, none⟩), .int .i64 (f), .int .i64 (my), v37, v38, v39, v40, v41, v42, v43, v44, v45, v46, v47, v48, v49, undef, undef, undef, undef, undef, undef, undef, undef, undef, undef, undef, undef, undef, undef, undef, undef, undef, undef, undef, undef, undef, undef, undef, undef, undef, undef, undef, undef], []⟩ ∧
        Hid (L 0 = true → v37 = .pointer (some ⟨w3.heap.size, 2, none⟩)) ∧ Hid (L 1 = true → v38 = .bool false) ∧ Hid (L 2 = true → v39 = .agg #[.int .i64 a, .int .i64 b, .int .i64 c, .int .i64 d]) ∧ Hid (L 3 = true → v40 = .int .i64 (mx)) ∧ Hid (L 4 = true → v41 = .int .i64 (my)) ∧ Hid (L 5 = true → v42 = .bool false) ∧ Hid (L 6 = true → v43 = .bool false) ∧ Hid (L 7 = true → v44 = undef) ∧ Hid (L 8 = true → v45 = undef) ∧ Hid (L 9 = true → v46 = undef) ∧ Hid (L 10 = true → v47 = undef) ∧ Hid (L 11 = true → v48 = .bool false) ∧ Hid (L 12 = true → v49 = .bool false) ∧ (Ats [(w2.heap.size, 24, [.int .i64 a, .int .i64 b, .int .i64 c, .int .i64 d]), (w2.heap.size + 1, 24, [.int .i64 e, .int .i64 f, .int .i64 g, .int .i64 h]), (w3.heap.size, 29, [.bool false, .bool true, .bool false, .bool true, .bool tS, .int .i64 tx, .int .i64 ty])] w u)) ?_ ?_ ?_
    · refine ⟨_, _, _, _, _, _, _, _, _, _, _, _, _, rfl, (Lib.hid fun h => by cases h), (Lib.hid fun h => by cases h), (Lib.hid fun h => by cases h), (Lib.hid fun h => by cases h), (Lib.hid fun h => by cases h), (Lib.hid fun h => by cases h), (Lib.hid fun h => by cases h), (Lib.hid fun h => by cases h), (Lib.hid fun h => by cases h), (Lib.hid fun h => by cases h), (Lib.hid fun h => by cases h), (Lib.hid fun h => by cases h), (Lib.hid fun h => by cases h), ?_⟩
      exact hA.drew
    · intro L a' u i hi hI hL hd
      obtain ⟨v37, v38, v39, v40, v41, v42, v43, v44, v45, v46, v47, v48, v49, rfl, k0, k1, k2, k3, k4, k5, k6, k7, k8, k9, k10, k11, k12, hW⟩ := hI
      obtain rfl | rfl | rfl | rfl | rfl | rfl | rfl | rfl | rfl | rfl | rfl | rfl | rfl : i = 0 ∨ i = 1 ∨ i = 2 ∨ i = 3 ∨ i = 4 ∨ i = 5 ∨ i = 6 ∨ i = 7 ∨ i = 8 ∨ i = 9 ∨ i = 10 ∨ i = 11 ∨ i = 12 := by omega
      · -- operation 0
        have HW := Lib.hid hW
        clear hW hL hd
        refine wpOp_step rfl fun K hK => ?_
        go_simp
        refine hK _ _ ⟨_, _, _, _, _, _, _, _, _, _, _, _, _, rfl, (Lib.hid fun _ => rfl), k1, k2, k3, k4, k5, k6, k7, k8, k9, k10, k11, k12, HW.out⟩
      · -- operation 1
        obtain rfl := k0.out (hd 0 (by decide))
        obtain ⟨c0, c1, c2, c3, c4, c5, c6⟩ := (hW.nth 2 rfl).seven.1
        have HW := Lib.hid hW
        clear hW hL hd
        refine wpOp_step rfl fun K hK => ?_
        go_simp
        refine hK _ _ ⟨_, _, _, _, _, _, _, _, _, _, _, _, _, rfl, k0, (Lib.hid fun _ => rfl), k2, k3, k4, k5, k6, k7, k8, k9, k10, k11, k12, HW.out⟩
      · -- operation 2
        obtain ⟨c0, c1, c2, c3⟩ := (hW.nth 0 rfl).four.1
        have HW := Lib.hid hW
        clear hW hL hd
        refine wpOp_step rfl fun K hK => ?_
        go_simp
        refine hK _ _ ⟨_, _, _, _, _, _, _, _, _, _, _, _, _, rfl, k0, k1, (Lib.hid fun _ => rfl), k3, k4, k5, k6, k7, k8, k9, k10, k11, k12, HW.out⟩
      · -- operation 3
        have HW := Lib.hid hW
        clear hW hL hd
        refine wpOp_step rfl fun K hK => ?_
        go_simp
        refine hK _ _ ⟨_, _, _, _, _, _, _, _, _, _, _, _, _, rfl, k0, k1, k2, (Lib.hid fun _ => rfl), k4, k5, k6, k7, k8, k9, k10, k11, k12, HW.out⟩
      · -- operation 4
        have HW := Lib.hid hW
        clear hW hL hd
        refine wpOp_step rfl fun K hK => ?_
        go_simp
        refine hK _ _ ⟨_, _, _, _, _, _, _, _, _, _, _, _, _, rfl, k0, k1, k2, k3, (Lib.hid fun _ => rfl), k5, k6, k7, k8, k9, k10, k11, k12, HW.out⟩
      · -- operation 5
        obtain rfl := k2.out (hd 2 (by decide))
        obtain rfl := k3.out (hd 3 (by decide))
        obtain rfl := k4.out (hd 4 (by decide))
        have HW := Lib.hid hW
        clear hW hL hd
        refine wpOp_step rfl fun K hK => ?_
        go_simp
        go_at_call 17
        refine (has_eq _ _ _ _ _ _ _ _ hp.out).mono ?_
        rintro _ w' ⟨rfl, hb⟩
        refine hK _ _ ⟨_, _, _, _, _, _, _, _, _, _, _, _, _, rfl, k0, k1, k2, k3, k4, (Lib.hid fun _ => rfl), k6, k7, k8, k9, k10, k11, k12, HW.out.by hb⟩
      · -- operation 6
        obtain rfl := k2.out (hd 2 (by decide))
        obtain rfl := k3.out (hd 3 (by decide))
        obtain rfl := k4.out (hd 4 (by decide))
        obtain rfl := k5.out (hd 5 (by decide))
        have HW := Lib.hid hW
        clear hW hL hd
        refine wpOp_step rfl fun K hK => ?_
        go_simp
        refine hK _ _ ⟨_, _, _, _, _, _, _, _, _, _, _, _, _, rfl, k0, k1, k2, k3, k4, k5, (Lib.hid fun _ => rfl), k7, k8, k9, k10, k11, k12, HW.out⟩
      · -- operation 7
        obtain rfl := k2.out (hd 2 (by decide))
        obtain rfl := k3.out (hd 3 (by decide))
        obtain rfl := k4.out (hd 4 (by decide))
        obtain rfl := k5.out (hd 5 (by decide))
        obtain rfl := k6.out (hd 6 (by decide))
        have HW := Lib.hid hW
        clear hW hL hd
        refine wpOp_step rfl fun K hK => ?_
        go_simp
        refine hK _ _ ⟨_, _, _, _, _, _, _, _, _, _, _, _, _, rfl, k0, k1, k2, k3, k4, k5, k6, (Lib.hid fun _ => rfl), k8, k9, k10, k11, k12, HW.out⟩
      · -- operation 8
        obtain rfl := k2.out (hd 2 (by decide))
        obtain rfl := k3.out (hd 3 (by decide))
        obtain rfl := k4.out (hd 4 (by decide))
        obtain rfl := k5.out (hd 5 (by decide))
        obtain rfl := k6.out (hd 6 (by decide))
        have HW := Lib.hid hW
        clear hW hL hd
        refine wpOp_step rfl fun K hK => ?_
        go_simp
        refine hK _ _ ⟨_, _, _, _, _, _, _, _, _, _, _, _, _, rfl, k0, k1, k2, k3, k4, k5, k6, k7, (Lib.hid fun _ => rfl), k9, k10, k11, k12, HW.out⟩
      · -- operation 9
        obtain rfl := k2.out (hd 2 (by decide))
        obtain rfl := k3.out (hd 3 (by decide))
        obtain rfl := k4.out (hd 4 (by decide))
        obtain rfl := k5.out (hd 5 (by decide))
        obtain rfl := k6.out (hd 6 (by decide))
        have HW := Lib.hid hW
        clear hW hL hd
        refine wpOp_step rfl fun K hK => ?_
        go_simp
        refine hK _ _ ⟨_, _, _, _, _, _, _, _, _, _, _, _, _, rfl, k0, k1, k2, k3, k4, k5, k6, k7, k8, (Lib.hid fun _ => rfl), k10, k11, k12, HW.out⟩
      · -- operation 10
        obtain rfl := k2.out (hd 2 (by decide))
        obtain rfl := k3.out (hd 3 (by decide))
        obtain rfl := k4.out (hd 4 (by decide))
        obtain rfl := k5.out (hd 5 (by decide))
        obtain rfl := k6.out (hd 6 (by decide))
        obtain rfl := k7.out (hd 7 (by decide))
        obtain rfl := k8.out (hd 8 (by decide))
        obtain rfl := k9.out (hd 9 (by decide))
        have HW := Lib.hid hW
        clear hW hL hd
        refine wpOp_step rfl fun K hK => ?_
        go_simp
        refine hK _ _ ⟨_, _, _, _, _, _, _, _, _, _, _, _, _, rfl, k0, k1, k2, k3, k4, k5, k6, k7, k8, k9, (Lib.hid fun _ => rfl), k11, k12, HW.out⟩
      · -- operation 11
        obtain rfl := k2.out (hd 2 (by decide))
        obtain rfl := k3.out (hd 3 (by decide))
        obtain rfl := k4.out (hd 4 (by decide))
        obtain rfl := k5.out (hd 5 (by decide))
        obtain rfl := k6.out (hd 6 (by decide))
        obtain rfl := k7.out (hd 7 (by decide))
        obtain rfl := k8.out (hd 8 (by decide))
        obtain rfl := k9.out (hd 9 (by decide))
        obtain rfl := k10.out (hd 10 (by decide))
        have HW := Lib.hid hW
        clear hW hL hd
        refine wpOp_step rfl fun K hK => ?_
        go_simp
        refine hK _ _ ⟨_, _, _, _, _, _, _, _, _, _, _, _, _, rfl, k0, k1, k2, k3, k4, k5, k6, k7, k8, k9, k10, (Lib.hid fun _ => rfl), k12, HW.out⟩
      · -- operation 12
        obtain rfl := k0.out (hd 0 (by decide))
        obtain rfl := k1.out (hd 1 (by decide))
        obtain rfl := k2.out (hd 2 (by decide))
        obtain rfl := k3.out (hd 3 (by decide))
        obtain rfl := k4.out (hd 4 (by decide))
        obtain rfl := k5.out (hd 5 (by decide))
        obtain rfl := k6.out (hd 6 (by decide))
        obtain rfl := k7.out (hd 7 (by decide))
        obtain rfl := k8.out (hd 8 (by decide))
        obtain rfl := k9.out (hd 9 (by decide))
        obtain rfl := k10.out (hd 10 (by decide))
        obtain rfl := k11.out (hd 11 (by decide))
        have HW := Lib.hid hW
        clear hW hL hd
        refine wpOp_step rfl fun K hK => ?_
        go_simp
        refine hK _ _ ⟨_, _, _, _, _, _, _, _, _, _, _, _, _, rfl, k0, k1, k2, k3, k4, k5, k6, k7, k8, k9, k10, k11, (Lib.hid fun _ => rfl), HW.out⟩
    intro L a' u hI hall
    obtain ⟨v37, v38, v39, v40, v41, v42, v43, v44, v45, v46, v47, v48, v49, rfl, k0, k1, k2, k3, k4, k5, k6, k7, k8, k9, k10, k11, k12, hW⟩ := hI
    obtain rfl := k0.out (hall 0 (by decide))
    obtain rfl := k1.out (hall 1 (by decide))
    obtain rfl := k2.out (hall 2 (by decide))
    obtain rfl := k3.out (hall 3 (by decide))
    obtain rfl := k4.out (hall 4 (by decide))
    obtain rfl := k5.out (hall 5 (by decide))
    obtain rfl := k6.out (hall 6 (by decide))
    obtain rfl := k7.out (hall 7 (by decide))
    obtain rfl := k8.out (hall 8 (by decide))
    obtain rfl := k9.out (hall 9 (by decide))
    obtain rfl := k10.out (hall 10 (by decide))
    obtain rfl := k11.out (hall 11 (by decide))
    obtain rfl := k12.out (hall 12 (by decide))
    clear k0 k1 k2 k3 k4 k5 k6 k7 k8 k9 k10 k11 k12 hall
    show wpOps _ _ _ [] _ _
    unfold wpOps
    dsimp only
    obtain ⟨c0, c1, c2, c3, c4, c5, c6⟩ := (hW.nth 2 rfl).seven.1
    have HW := Lib.hid hW
    clear hW hA
    go_wp2
    go_ret
    exact ⟨rfl, HW.out.2⟩
  | false =>
    obtain ⟨e1, e2, e3⟩ := corner_some e f g h mx my hEE.out HX.out HY.out
    obtain rfl : tI = true := HI.out.symm.trans e1
    have e2' := HW'.out.symm.trans e2
    have e3' := HO.out.symm.trans e3
    rw [hu.out, hv.out] at e2'
    rw [hp.out, hq.out] at e3'
    have hrange := HC.out
    have hne := hEE.out
    simp only [emptyB, Bool.or_eq_false_iff, decide_eq_false_iff_not] at hne
    have x1 : IntKind.i64.wrap (c - 1) = c - 1 := IntWalk.i64_in _ (by omega)
    have x2 : IntKind.i64.wrap (d - 1) = d - 1 := IntWalk.i64_in _ (by omega)
    clear e1 e2 e3 hIE HI HW' HO HX HY hrange hne HC hEE
    cases p with
    | true =>
      obtain rfl : q = tO := by simpa using e3'.symm
      cases u' with
      | true =>
        obtain rfl : v = tW := by simpa using e2'.symm
        clear e2' e3'
        go_wp2_with fail
        have hA := HA.out
        clear HA
        refine wp_region_tail [[], [0], [], [], [], [2, 3, 4], [2, 3, 4, 5], [2, 3, 4, 5, 6], [2, 3, 4, 5, 6], [2, 3, 4, 5, 6], [2, 3, 4, 5, 6, 7, 8, 9], [2, 3, 4, 5, 6, 7, 8, 9, 10], [0, 1, 2, 3, 4, 5, 6, 7, 8, 9, 10, 11]] (by kernel_rfl) (by kernel_rfl) 13 rfl (by decide) (by decide) (by kernel_rfl)
          (fun L a' u => ∃ v37 v38 v39 v40 v41 v42 v43 v44 v45 v46 v47 v48 v49 : Value, a' = ⟨#[.slice A1 n1 c1, .slice A2 n2 c2, undef, undef, .bool false, .pointer (some ⟨w2.heap.size, 0, none⟩), .pointer (some ⟨w2.heap.size + 1, 0, none⟩), .pointer (some ⟨w3.heap.size, 0, none⟩), .int .i64 (mx), .int .i64 (my), .slice A1 n1 c1, .agg #[.int .i64 a, .int .i64 b, .int .i64 c, .int .i64 d], .slice A2 n2 c2, .agg #[.int .i64 e, .int .i64 f, .int .i64 g, .int .i64 h], .pointer (some ⟨w2.heap.size, 0, none⟩), .int .i64 (a), .pointer (some ⟨w2.heap.size, 1, none⟩), .int .i64 (b), .agg #[.int .i64 a, .int .i64 b], .agg #[.int .i64 a, .int .i64 b, .int .i64 c, .int .i64 d], .agg #[.int .i64 e, .int .i64 f, .int .i64 g, .int .i64 h], .agg #[.bool true, .bool v, .bool q, .bool false, .bool tS, .int .i64 tx, .int .i64 ty], .pointer (some ⟨w3.heap.size, 0, none⟩), .bool true, .pointer (some ⟨w3.heap.size, 3, none⟩), .bool false, .bool false, .pointer (some ⟨w2.heap.size, 0, none⟩), .int .i64 (a), .pointer (some ⟨w2.heap.size + 1, 0, none⟩), .int .i64 (e), .int .i64 (mx), .pointer (some ⟨w2.heap.size, 1, none⟩), .int .i64 (b), .pointer (some ⟨w2.heap.size + 1, 1, none⟩), .int .i64 (f), .int .i64 (my), v37, v38, v39, v40, v41, v42, v43, v44, v45, v46, v47, v48, v49, undef, undef, undef, undef, undef, undef, undef, undef, undef, undef, undef, undef, undef, undef, undef, undef, undef, undef, undef, undef, undef, undef, undef, undef, undef, undef, undef, undef], []⟩ ∧
            Hid (L 0 = true → v37 = .pointer (some ⟨w3.heap.size, 2, none⟩)) ∧ Hid (L 1 = true → v38 = .bool q) ∧ Hid (L 2 = true → v39 = .agg #[.int .i64 a, .int .i64 b, .int .i64 c, .int .i64 d]) ∧ Hid (L 3 = true → v40 = .int .i64 (mx)) ∧ Hid (L 4 = true → v41 = .int .i64 (my)) ∧ Hid (L 5 = true → v42 = .bool true) ∧ Hid (L 6 = true → v43 = .bool true) ∧ Hid (L 7 = true → v44 = .agg #[.int .i64 e, .int .i64 f, .int .i64 g, .int .i64 h]) ∧ Hid (L 8 = true → v45 = .int .i64 (mx)) ∧ Hid (L 9 = true → v46 = .int .i64 (my)) ∧ Hid (L 10 = true → v47 = .bool q) ∧ Hid (L 11 = true → v48 = .bool q) ∧ Hid (L 12 = true → v49 = .bool false) ∧ (Ats [(w2.heap.size, 24, [.int .i64 a, .int .i64 b, .int .i64 c, .int .i64 d]), (w2.heap.size + 1, 24, [.int .i64 e, .int .i64 f, .int .i64 g, .int .i64 h]), (w3.heap.size, 29, [.bool true, .bool v, .bool q, .bool false, .bool tS, .int .i64 tx, .int .i64 ty])] w u)) ?_ ?_ ?_
        · refine ⟨_, _, _, _, _, _, _, _, _, _, _, _, _, rfl, (Lib.hid fun h => by cases h), (Lib.hid fun h => by cases h), (Lib.hid fun h => by cases h), (Lib.hid fun h => by cases h), (Lib.hid fun h => by cases h), (Lib.hid fun h => by cases h), (Lib.hid fun h => by cases h), (Lib.hid fun h => by cases h), (Lib.hid fun h => by cases h), (Lib.hid fun h => by cases h), (Lib.hid fun h => by cases h), (Lib.hid fun h => by cases h), (Lib.hid fun h => by cases h), ?_⟩
          exact hA.drew
        · intro L a' u i hi hI hL hd
          obtain ⟨v37, v38, v39, v40, v41, v42, v43, v44, v45, v46, v47, v48, v49, rfl, k0, k1, k2, k3, k4, k5, k6, k7, k8, k9, k10, k11, k12, hW⟩ := hI
          obtain rfl | rfl | rfl | rfl | rfl | rfl | rfl | rfl | rfl | rfl | rfl | rfl | rfl : i = 0 ∨ i = 1 ∨ i = 2 ∨ i = 3 ∨ i = 4 ∨ i = 5 ∨ i = 6 ∨ i = 7 ∨ i = 8 ∨ i = 9 ∨ i = 10 ∨ i = 11 ∨ i = 12 := by omega
          · -- operation 0
            have HW := Lib.hid hW
            clear hW hL hd
            refine wpOp_step rfl fun K hK => ?_
            go_simp
            refine hK _ _ ⟨_, _, _, _, _, _, _, _, _, _, _, _, _, rfl, (Lib.hid fun _ => rfl), k1, k2, k3, k4, k5, k6, k7, k8, k9, k10, k11, k12, HW.out⟩
          · -- operation 1
            obtain rfl := k0.out (hd 0 (by decide))
            obtain ⟨c0, c1, c2, c3, c4, c5, c6⟩ := (hW.nth 2 rfl).seven.1
            have HW := Lib.hid hW
            clear hW hL hd
            refine wpOp_step rfl fun K hK => ?_
            go_simp
            refine hK _ _ ⟨_, _, _, _, _, _, _, _, _, _, _, _, _, rfl, k0, (Lib.hid fun _ => rfl), k2, k3, k4, k5, k6, k7, k8, k9, k10, k11, k12, HW.out⟩
          · -- operation 2
            obtain ⟨c0, c1, c2, c3⟩ := (hW.nth 0 rfl).four.1
            have HW := Lib.hid hW
            clear hW hL hd
            refine wpOp_step rfl fun K hK => ?_
            go_simp
            refine hK _ _ ⟨_, _, _, _, _, _, _, _, _, _, _, _, _, rfl, k0, k1, (Lib.hid fun _ => rfl), k3, k4, k5, k6, k7, k8, k9, k10, k11, k12, HW.out⟩
          · -- operation 3
            have HW := Lib.hid hW
            clear hW hL hd
            refine wpOp_step rfl fun K hK => ?_
            go_simp
            refine hK _ _ ⟨_, _, _, _, _, _, _, _, _, _, _, _, _, rfl, k0, k1, k2, (Lib.hid fun _ => rfl), k4, k5, k6, k7, k8, k9, k10, k11, k12, HW.out⟩
          · -- operation 4
            have HW := Lib.hid hW
            clear hW hL hd
            refine wpOp_step rfl fun K hK => ?_
            go_simp
            refine hK _ _ ⟨_, _, _, _, _, _, _, _, _, _, _, _, _, rfl, k0, k1, k2, k3, (Lib.hid fun _ => rfl), k5, k6, k7, k8, k9, k10, k11, k12, HW.out⟩
          · -- operation 5
            obtain rfl := k2.out (hd 2 (by decide))
            obtain rfl := k3.out (hd 3 (by decide))
            obtain rfl := k4.out (hd 4 (by decide))
            have HW := Lib.hid hW
            clear hW hL hd
            refine wpOp_step rfl fun K hK => ?_
            go_simp
            go_at_call 17
            refine (has_eq _ _ _ _ _ _ _ _ hp.out).mono ?_
            rintro _ w' ⟨rfl, hb⟩
            refine hK _ _ ⟨_, _, _, _, _, _, _, _, _, _, _, _, _, rfl, k0, k1, k2, k3, k4, (Lib.hid fun _ => rfl), k6, k7, k8, k9, k10, k11, k12, HW.out.by hb⟩
          · -- operation 6
            obtain rfl := k2.out (hd 2 (by decide))
            obtain rfl := k3.out (hd 3 (by decide))
            obtain rfl := k4.out (hd 4 (by decide))
            obtain rfl := k5.out (hd 5 (by decide))
            have HW := Lib.hid hW
            clear hW hL hd
            refine wpOp_step rfl fun K hK => ?_
            go_simp
            refine hK _ _ ⟨_, _, _, _, _, _, _, _, _, _, _, _, _, rfl, k0, k1, k2, k3, k4, k5, (Lib.hid fun _ => rfl), k7, k8, k9, k10, k11, k12, HW.out⟩
          · -- operation 7
            obtain rfl := k2.out (hd 2 (by decide))
            obtain rfl := k3.out (hd 3 (by decide))
            obtain rfl := k4.out (hd 4 (by decide))
            obtain rfl := k5.out (hd 5 (by decide))
            obtain rfl := k6.out (hd 6 (by decide))
            obtain ⟨c0, c1, c2, c3⟩ := (hW.nth 1 rfl).four.1
            have HW := Lib.hid hW
            clear hW hL hd
            refine wpOp_step rfl fun K hK => ?_
            go_simp
            refine hK _ _ ⟨_, _, _, _, _, _, _, _, _, _, _, _, _, rfl, k0, k1, k2, k3, k4, k5, k6, (Lib.hid fun _ => rfl), k8, k9, k10, k11, k12, HW.out⟩
          · -- operation 8
            obtain rfl := k2.out (hd 2 (by decide))
            obtain rfl := k3.out (hd 3 (by decide))
            obtain rfl := k4.out (hd 4 (by decide))
            obtain rfl := k5.out (hd 5 (by decide))
            obtain rfl := k6.out (hd 6 (by decide))
            have HW := Lib.hid hW
            clear hW hL hd
            refine wpOp_step rfl fun K hK => ?_
            go_simp
            refine hK _ _ ⟨_, _, _, _, _, _, _, _, _, _, _, _, _, rfl, k0, k1, k2, k3, k4, k5, k6, k7, (Lib.hid fun _ => rfl), k9, k10, k11, k12, HW.out⟩
          · -- operation 9
            obtain rfl := k2.out (hd 2 (by decide))
            obtain rfl := k3.out (hd 3 (by decide))
            obtain rfl := k4.out (hd 4 (by decide))
            obtain rfl := k5.out (hd 5 (by decide))
            obtain rfl := k6.out (hd 6 (by decide))
            have HW := Lib.hid hW
            clear hW hL hd
            refine wpOp_step rfl fun K hK => ?_
            go_simp
            refine hK _ _ ⟨_, _, _, _, _, _, _, _, _, _, _, _, _, rfl, k0, k1, k2, k3, k4, k5, k6, k7, k8, (Lib.hid fun _ => rfl), k10, k11, k12, HW.out⟩
          · -- operation 10
            obtain rfl := k2.out (hd 2 (by decide))
            obtain rfl := k3.out (hd 3 (by decide))
            obtain rfl := k4.out (hd 4 (by decide))
            obtain rfl := k5.out (hd 5 (by decide))
            obtain rfl := k6.out (hd 6 (by decide))
            obtain rfl := k7.out (hd 7 (by decide))
            obtain rfl := k8.out (hd 8 (by decide))
            obtain rfl := k9.out (hd 9 (by decide))
            have HW := Lib.hid hW
            clear hW hL hd
            refine wpOp_step rfl fun K hK => ?_
            go_simp
            go_at_call 17
            refine (has_eq _ _ _ _ _ _ _ _ hq.out).mono ?_
            rintro _ w' ⟨rfl, hb⟩
            refine hK _ _ ⟨_, _, _, _, _, _, _, _, _, _, _, _, _, rfl, k0, k1, k2, k3, k4, k5, k6, k7, k8, k9, (Lib.hid fun _ => rfl), k11, k12, HW.out.by hb⟩
          · -- operation 11
            obtain rfl := k2.out (hd 2 (by decide))
            obtain rfl := k3.out (hd 3 (by decide))
            obtain rfl := k4.out (hd 4 (by decide))
            obtain rfl := k5.out (hd 5 (by decide))
            obtain rfl := k6.out (hd 6 (by decide))
            obtain rfl := k7.out (hd 7 (by decide))
            obtain rfl := k8.out (hd 8 (by decide))
            obtain rfl := k9.out (hd 9 (by decide))
            obtain rfl := k10.out (hd 10 (by decide))
            have HW := Lib.hid hW
            clear hW hL hd
            refine wpOp_step rfl fun K hK => ?_
            go_simp
            refine hK _ _ ⟨_, _, _, _, _, _, _, _, _, _, _, _, _, rfl, k0, k1, k2, k3, k4, k5, k6, k7, k8, k9, k10, (Lib.hid fun _ => rfl), k12, HW.out⟩
          · -- operation 12
            obtain rfl := k0.out (hd 0 (by decide))
            obtain rfl := k1.out (hd 1 (by decide))
            obtain rfl := k2.out (hd 2 (by decide))
            obtain rfl := k3.out (hd 3 (by decide))
            obtain rfl := k4.out (hd 4 (by decide))
            obtain rfl := k5.out (hd 5 (by decide))
            obtain rfl := k6.out (hd 6 (by decide))
            obtain rfl := k7.out (hd 7 (by decide))
            obtain rfl := k8.out (hd 8 (by decide))
            obtain rfl := k9.out (hd 9 (by decide))
            obtain rfl := k10.out (hd 10 (by decide))
            obtain rfl := k11.out (hd 11 (by decide))
            have HW := Lib.hid hW
            clear hW hL hd
            refine wpOp_step rfl fun K hK => ?_
            go_simp
            refine hK _ _ ⟨_, _, _, _, _, _, _, _, _, _, _, _, _, rfl, k0, k1, k2, k3, k4, k5, k6, k7, k8, k9, k10, k11, (Lib.hid fun _ => rfl), HW.out⟩
        intro L a' u hI hall
        obtain ⟨v37, v38, v39, v40, v41, v42, v43, v44, v45, v46, v47, v48, v49, rfl, k0, k1, k2, k3, k4, k5, k6, k7, k8, k9, k10, k11, k12, hW⟩ := hI
        obtain rfl := k0.out (hall 0 (by decide))
        obtain rfl := k1.out (hall 1 (by decide))
        obtain rfl := k2.out (hall 2 (by decide))
        obtain rfl := k3.out (hall 3 (by decide))
        obtain rfl := k4.out (hall 4 (by decide))
        obtain rfl := k5.out (hall 5 (by decide))
        obtain rfl := k6.out (hall 6 (by decide))
        obtain rfl := k7.out (hall 7 (by decide))
        obtain rfl := k8.out (hall 8 (by decide))
        obtain rfl := k9.out (hall 9 (by decide))
        obtain rfl := k10.out (hall 10 (by decide))
        obtain rfl := k11.out (hall 11 (by decide))
        obtain rfl := k12.out (hall 12 (by decide))
        clear k0 k1 k2 k3 k4 k5 k6 k7 k8 k9 k10 k11 k12 hall
        show wpOps _ _ _ [] _ _
        unfold wpOps
        dsimp only
        have HW := Lib.hid hW
        obtain ⟨c0, c1, c2, c3, c4, c5, c6⟩ := (hW.nth 2 rfl).seven.1
        clear hW hA
        go_wp2_with fail
        clear c0 c1 c2 c3 c4 c5 c6
        have hA := HW.out
        clear HW
        refine wp_region_tail [[], [0], [], [], [3], [], [5], [2, 3, 4, 5, 6], [2, 3, 4, 5, 6, 7], [2, 3, 4, 5, 6, 7, 8], [2, 3, 4, 5, 6, 7, 8], [2, 3, 4, 5, 6, 7, 8, 10], [2, 3, 4, 5, 6, 7, 8, 10, 11], [2, 3, 4, 5, 6, 7, 8], [2, 3, 4, 5, 6, 7, 8, 13], [2, 3, 4, 5, 6, 7, 8, 13, 14], [2, 3, 4, 5, 6, 7, 8, 9, 10, 11, 12, 13, 14, 15], [2, 3, 4, 5, 6, 7, 8, 9, 10, 11, 12, 13, 14, 15, 16], [0, 1, 2, 3, 4, 5, 6, 7, 8, 9, 10, 11, 12, 13, 14, 15, 16, 17], [0, 1, 2, 3, 4, 5, 6, 7, 8, 9, 10, 11, 12, 13, 14, 15, 16, 17, 18]] (by kernel_rfl) (by kernel_rfl) 20 rfl (by decide) (by decide) (by kernel_rfl)
          (fun L a' u => ∃ v4 v59 v60 v61 v62 v63 v64 v65 v66 v67 v68 v69 v70 v71 v72 v73 v74 v75 v76 v77 : Value, a' = ⟨#[.slice A1 n1 c1, .slice A2 n2 c2, undef, undef, v4, .pointer (some ⟨w2.heap.size, 0, none⟩), .pointer (some ⟨w2.heap.size + 1, 0, none⟩), .pointer (some ⟨w3.heap.size, 0, none⟩), .int .i64 (mx), .int .i64 (my), .slice A1 n1 c1, .agg #[.int .i64 a, .int .i64 b, .int .i64 c, .int .i64 d], .slice A2 n2 c2, .agg #[.int .i64 e, .int .i64 f, .int .i64 g, .int .i64 h], .pointer (some ⟨w2.heap.size, 0, none⟩), .int .i64 (a), .pointer (some ⟨w2.heap.size, 1, none⟩), .int .i64 (b), .agg #[.int .i64 a, .int .i64 b], .agg #[.int .i64 a, .int .i64 b, .int .i64 c, .int .i64 d], .agg #[.int .i64 e, .int .i64 f, .int .i64 g, .int .i64 h], .agg #[.bool true, .bool v, .bool q, .bool false, .bool tS, .int .i64 tx, .int .i64 ty], .pointer (some ⟨w3.heap.size, 0, none⟩), .bool true, .pointer (some ⟨w3.heap.size, 3, none⟩), .bool false, .bool false, .pointer (some ⟨w2.heap.size, 0, none⟩), .int .i64 (a), .pointer (some ⟨w2.heap.size + 1, 0, none⟩), .int .i64 (e), .int .i64 (mx), .pointer (some ⟨w2.heap.size, 1, none⟩), .int .i64 (b), .pointer (some ⟨w2.heap.size + 1, 1, none⟩), .int .i64 (f), .int .i64 (my), .pointer (some ⟨w3.heap.size, 2, none⟩), .bool q, .agg #[.int .i64 a, .int .i64 b, .int .i64 c, .int .i64 d], .int .i64 (mx), .int .i64 (my), .bool true, .bool true, .agg #[.int .i64 e, .int .i64 f, .int .i64 g, .int .i64 h], .int .i64 (mx), .int .i64 (my), .bool q, .bool q, .bool false, .pointer (some ⟨w3.heap.size, 3, none⟩), .bool false, undef, undef, undef, undef, undef, undef, undef, v59, v60, v61, v62, v63, v64, v65, v66, v67, v68, v69, v70, v71, v72, v73, v74, v75, v76, v77], []⟩ ∧
            Hid (L 0 = true → v59 = .pointer (some ⟨w3.heap.size, 1, none⟩)) ∧ Hid (L 1 = true → v60 = .bool v) ∧ Hid (L 2 = true → v61 = .agg #[.int .i64 e, .int .i64 f, .int .i64 g, .int .i64 h]) ∧ Hid (L 3 = true → v62 = .pointer (some ⟨w2.heap.size, 0, none⟩)) ∧ Hid (L 4 = true → v63 = .int .i64 (a)) ∧ Hid (L 5 = true → v64 = .pointer (some ⟨w2.heap.size, 1, none⟩)) ∧ Hid (L 6 = true → v65 = .int .i64 (b)) ∧ Hid (L 7 = true → v66 = .bool true) ∧ Hid (L 8 = true → v67 = .bool true) ∧ Hid (L 9 = true → v68 = .agg #[.int .i64 e, .int .i64 f, .int .i64 g, .int .i64 h]) ∧ Hid (L 10 = true → v69 = .pointer (some ⟨w2.heap.size, 2, none⟩)) ∧ Hid (L 11 = true → v70 = .int .i64 (c)) ∧ Hid (L 12 = true → v71 = .int .i64 (c - 1)) ∧ Hid (L 13 = true → v72 = .pointer (some ⟨w2.heap.size, 3, none⟩)) ∧ Hid (L 14 = true → v73 = .int .i64 (d)) ∧ Hid (L 15 = true → v74 = .int .i64 (d - 1)) ∧ Hid (L 16 = true → v75 = .bool v) ∧ Hid (L 17 = true → v76 = .bool v) ∧ Hid (L 18 = true → v77 = .bool true) ∧ Hid (L 19 = true → v4 = .bool true) ∧ (Ats [(w2.heap.size, 24, [.int .i64 a, .int .i64 b, .int .i64 c, .int .i64 d]), (w2.heap.size + 1, 24, [.int .i64 e, .int .i64 f, .int .i64 g, .int .i64 h]), (w3.heap.size, 29, [.bool true, .bool v, .bool q, .bool false, .bool tS, .int .i64 tx, .int .i64 ty])] w u)) ?_ ?_ ?_
        · refine ⟨_, _, _, _, _, _, _, _, _, _, _, _, _, _, _, _, _, _, _, _, rfl, (Lib.hid fun h => by cases h), (Lib.hid fun h => by cases h), (Lib.hid fun h => by cases h), (Lib.hid fun h => by cases h), (Lib.hid fun h => by cases h), (Lib.hid fun h => by cases h), (Lib.hid fun h => by cases h), (Lib.hid fun h => by cases h), (Lib.hid fun h => by cases h), (Lib.hid fun h => by cases h), (Lib.hid fun h => by cases h), (Lib.hid fun h => by cases h), (Lib.hid fun h => by cases h), (Lib.hid fun h => by cases h), (Lib.hid fun h => by cases h), (Lib.hid fun h => by cases h), (Lib.hid fun h => by cases h), (Lib.hid fun h => by cases h), (Lib.hid fun h => by cases h), (Lib.hid fun h => by cases h), ?_⟩
          exact hA.drew
        · intro L a' u i hi hI hL hd
          obtain ⟨v4, v59, v60, v61, v62, v63, v64, v65, v66, v67, v68, v69, v70, v71, v72, v73, v74, v75, v76, v77, rfl, k0, k1, k2, k3, k4, k5, k6, k7, k8, k9, k10, k11, k12, k13, k14, k15, k16, k17, k18, k19, hW⟩ := hI
          obtain rfl | rfl | rfl | rfl | rfl | rfl | rfl | rfl | rfl | rfl | rfl | rfl | rfl | rfl | rfl | rfl | rfl | rfl | rfl | rfl : i = 0 ∨ i = 1 ∨ i = 2 ∨ i = 3 ∨ i = 4 ∨ i = 5 ∨ i = 6 ∨ i = 7 ∨ i = 8 ∨ i = 9 ∨ i = 10 ∨ i = 11 ∨ i = 12 ∨ i = 13 ∨ i = 14 ∨ i = 15 ∨ i = 16 ∨ i = 17 ∨ i = 18 ∨ i = 19 := by omega
          · -- operation 0
            have HW := Lib.hid hW
            clear hW hL hd
            refine wpOp_step rfl fun K hK => ?_
            go_simp
            refine hK _ _ ⟨_, _, _, _, _, _, _, _, _, _, _, _, _, _, _, _, _, _, _, _, rfl, (Lib.hid fun _ => rfl), k1, k2, k3, k4, k5, k6, k7, k8, k9, k10, k11, k12, k13, k14, k15, k16, k17, k18, k19, HW.out⟩
          · -- operation 1
            obtain rfl := k0.out (hd 0 (by decide))
            obtain ⟨c0, c1, c2, c3, c4, c5, c6⟩ := (hW.nth 2 rfl).seven.1
            have HW := Lib.hid hW
            clear hW hL hd
            refine wpOp_step rfl fun K hK => ?_
            go_simp
            refine hK _ _ ⟨_, _, _, _, _, _, _, _, _, _, _, _, _, _, _, _, _, _, _, _, rfl, k0, (Lib.hid fun _ => rfl), k2, k3, k4, k5, k6, k7, k8, k9, k10, k11, k12, k13, k14, k15, k16, k17, k18, k19, HW.out⟩
          · -- operation 2
            obtain ⟨c0, c1, c2, c3⟩ := (hW.nth 1 rfl).four.1
            have HW := Lib.hid hW
            clear hW hL hd
            refine wpOp_step rfl fun K hK => ?_
            go_simp
            refine hK _ _ ⟨_, _, _, _, _, _, _, _, _, _, _, _, _, _, _, _, _, _, _, _, rfl, k0, k1, (Lib.hid fun _ => rfl), k3, k4, k5, k6, k7, k8, k9, k10, k11, k12, k13, k14, k15, k16, k17, k18, k19, HW.out⟩
          · -- operation 3
            have HW := Lib.hid hW
            clear hW hL hd
            refine wpOp_step rfl fun K hK => ?_
            go_simp
            refine hK _ _ ⟨_, _, _, _, _, _, _, _, _, _, _, _, _, _, _, _, _, _, _, _, rfl, k0, k1, k2, (Lib.hid fun _ => rfl), k4, k5, k6, k7, k8, k9, k10, k11, k12, k13, k14, k15, k16, k17, k18, k19, HW.out⟩
          · -- operation 4
            obtain rfl := k3.out (hd 3 (by decide))
            obtain ⟨c0, c1, c2, c3⟩ := (hW.nth 0 rfl).four.1
            have HW := Lib.hid hW
            clear hW hL hd
            refine wpOp_step rfl fun K hK => ?_
            go_simp
            refine hK _ _ ⟨_, _, _, _, _, _, _, _, _, _, _, _, _, _, _, _, _, _, _, _, rfl, k0, k1, k2, k3, (Lib.hid fun _ => rfl), k5, k6, k7, k8, k9, k10, k11, k12, k13, k14, k15, k16, k17, k18, k19, HW.out⟩
          · -- operation 5
            have HW := Lib.hid hW
            clear hW hL hd
            refine wpOp_step rfl fun K hK => ?_
            go_simp
            refine hK _ _ ⟨_, _, _, _, _, _, _, _, _, _, _, _, _, _, _, _, _, _, _, _, rfl, k0, k1, k2, k3, k4, (Lib.hid fun _ => rfl), k6, k7, k8, k9, k10, k11, k12, k13, k14, k15, k16, k17, k18, k19, HW.out⟩
          · -- operation 6
            obtain rfl := k5.out (hd 5 (by decide))
            obtain ⟨c0, c1, c2, c3⟩ := (hW.nth 0 rfl).four.1
            have HW := Lib.hid hW
            clear hW hL hd
            refine wpOp_step rfl fun K hK => ?_
            go_simp
            refine hK _ _ ⟨_, _, _, _, _, _, _, _, _, _, _, _, _, _, _, _, _, _, _, _, rfl, k0, k1, k2, k3, k4, k5, (Lib.hid fun _ => rfl), k7, k8, k9, k10, k11, k12, k13, k14, k15, k16, k17, k18, k19, HW.out⟩
          · -- operation 7
            obtain rfl := k2.out (hd 2 (by decide))
            obtain rfl := k3.out (hd 3 (by decide))
            obtain rfl := k4.out (hd 4 (by decide))
            obtain rfl := k5.out (hd 5 (by decide))
            obtain rfl := k6.out (hd 6 (by decide))
            have HW := Lib.hid hW
            clear hW hL hd
            refine wpOp_step rfl fun K hK => ?_
            go_simp
            go_at_call 17
            refine (has_eq _ _ _ _ _ _ _ _ hu.out).mono ?_
            rintro _ w' ⟨rfl, hb⟩
            refine hK _ _ ⟨_, _, _, _, _, _, _, _, _, _, _, _, _, _, _, _, _, _, _, _, rfl, k0, k1, k2, k3, k4, k5, k6, (Lib.hid fun _ => rfl), k8, k9, k10, k11, k12, k13, k14, k15, k16, k17, k18, k19, HW.out.by hb⟩
          · -- operation 8
            obtain rfl := k2.out (hd 2 (by decide))
            obtain rfl := k3.out (hd 3 (by decide))
            obtain rfl := k4.out (hd 4 (by decide))
            obtain rfl := k5.out (hd 5 (by decide))
            obtain rfl := k6.out (hd 6 (by decide))
            obtain rfl := k7.out (hd 7 (by decide))
            have HW := Lib.hid hW
            clear hW hL hd
            refine wpOp_step rfl fun K hK => ?_
            go_simp
            refine hK _ _ ⟨_, _, _, _, _, _, _, _, _, _, _, _, _, _, _, _, _, _, _, _, rfl, k0, k1, k2, k3, k4, k5, k6, k7, (Lib.hid fun _ => rfl), k9, k10, k11, k12, k13, k14, k15, k16, k17, k18, k19, HW.out⟩
          · -- operation 9
            obtain rfl := k2.out (hd 2 (by decide))
            obtain rfl := k3.out (hd 3 (by decide))
            obtain rfl := k4.out (hd 4 (by decide))
            obtain rfl := k5.out (hd 5 (by decide))
            obtain rfl := k6.out (hd 6 (by decide))
            obtain rfl := k7.out (hd 7 (by decide))
            obtain rfl := k8.out (hd 8 (by decide))
            obtain ⟨c0, c1, c2, c3⟩ := (hW.nth 1 rfl).four.1
            have HW := Lib.hid hW
            clear hW hL hd
            refine wpOp_step rfl fun K hK => ?_
            go_simp
            refine hK _ _ ⟨_, _, _, _, _, _, _, _, _, _, _, _, _, _, _, _, _, _, _, _, rfl, k0, k1, k2, k3, k4, k5, k6, k7, k8, (Lib.hid fun _ => rfl), k10, k11, k12, k13, k14, k15, k16, k17, k18, k19, HW.out⟩
          · -- operation 10
            obtain rfl := k2.out (hd 2 (by decide))
            obtain rfl := k3.out (hd 3 (by decide))
            obtain rfl := k4.out (hd 4 (by decide))
            obtain rfl := k5.out (hd 5 (by decide))
            obtain rfl := k6.out (hd 6 (by decide))
            obtain rfl := k7.out (hd 7 (by decide))
            obtain rfl := k8.out (hd 8 (by decide))
            have HW := Lib.hid hW
            clear hW hL hd
            refine wpOp_step rfl fun K hK => ?_
            go_simp
            refine hK _ _ ⟨_, _, _, _, _, _, _, _, _, _, _, _, _, _, _, _, _, _, _, _, rfl, k0, k1, k2, k3, k4, k5, k6, k7, k8, k9, (Lib.hid fun _ => rfl), k11, k12, k13, k14, k15, k16, k17, k18, k19, HW.out⟩
          · -- operation 11
            obtain rfl := k2.out (hd 2 (by decide))
            obtain rfl := k3.out (hd 3 (by decide))
            obtain rfl := k4.out (hd 4 (by decide))
            obtain rfl := k5.out (hd 5 (by decide))
            obtain rfl := k6.out (hd 6 (by decide))
            obtain rfl := k7.out (hd 7 (by decide))
            obtain rfl := k8.out (hd 8 (by decide))
            obtain rfl := k10.out (hd 10 (by decide))
            obtain ⟨c0, c1, c2, c3⟩ := (hW.nth 0 rfl).four.1
            have HW := Lib.hid hW
            clear hW hL hd
            refine wpOp_step rfl fun K hK => ?_
            go_simp
            refine hK _ _ ⟨_, _, _, _, _, _, _, _, _, _, _, _, _, _, _, _, _, _, _, _, rfl, k0, k1, k2, k3, k4, k5, k6, k7, k8, k9, k10, (Lib.hid fun _ => rfl), k12, k13, k14, k15, k16, k17, k18, k19, HW.out⟩
          · -- operation 12
            obtain rfl := k2.out (hd 2 (by decide))
            obtain rfl := k3.out (hd 3 (by decide))
            obtain rfl := k4.out (hd 4 (by decide))
            obtain rfl := k5.out (hd 5 (by decide))
            obtain rfl := k6.out (hd 6 (by decide))
            obtain rfl := k7.out (hd 7 (by decide))
            obtain rfl := k8.out (hd 8 (by decide))
            obtain rfl := k10.out (hd 10 (by decide))
            obtain rfl := k11.out (hd 11 (by decide))
            have HW := Lib.hid hW
            clear hW hL hd
            refine wpOp_step rfl fun K hK => ?_
            go_simp
            refine hK _ _ ⟨_, _, _, _, _, _, _, _, _, _, _, _, _, _, _, _, _, _, _, _, rfl, k0, k1, k2, k3, k4, k5, k6, k7, k8, k9, k10, k11, (Lib.hid fun _ => rfl), k13, k14, k15, k16, k17, k18, k19, HW.out⟩
          · -- operation 13
            obtain rfl := k2.out (hd 2 (by decide))
            obtain rfl := k3.out (hd 3 (by decide))
            obtain rfl := k4.out (hd 4 (by decide))
            obtain rfl := k5.out (hd 5 (by decide))
            obtain rfl := k6.out (hd 6 (by decide))
            obtain rfl := k7.out (hd 7 (by decide))
            obtain rfl := k8.out (hd 8 (by decide))
            have HW := Lib.hid hW
            clear hW hL hd
            refine wpOp_step rfl fun K hK => ?_
            go_simp
            refine hK _ _ ⟨_, _, _, _, _, _, _, _, _, _, _, _, _, _, _, _, _, _, _, _, rfl, k0, k1, k2, k3, k4, k5, k6, k7, k8, k9, k10, k11, k12, (Lib.hid fun _ => rfl), k14, k15, k16, k17, k18, k19, HW.out⟩
          · -- operation 14
            obtain rfl := k2.out (hd 2 (by decide))
            obtain rfl := k3.out (hd 3 (by decide))
            obtain rfl := k4.out (hd 4 (by decide))
            obtain rfl := k5.out (hd 5 (by decide))
            obtain rfl := k6.out (hd 6 (by decide))
            obtain rfl := k7.out (hd 7 (by decide))
            obtain rfl := k8.out (hd 8 (by decide))
            obtain rfl := k13.out (hd 13 (by decide))
            obtain ⟨c0, c1, c2, c3⟩ := (hW.nth 0 rfl).four.1
            have HW := Lib.hid hW
            clear hW hL hd
            refine wpOp_step rfl fun K hK => ?_
            go_simp
            refine hK _ _ ⟨_, _, _, _, _, _, _, _, _, _, _, _, _, _, _, _, _, _, _, _, rfl, k0, k1, k2, k3, k4, k5, k6, k7, k8, k9, k10, k11, k12, k13, (Lib.hid fun _ => rfl), k15, k16, k17, k18, k19, HW.out⟩
          · -- operation 15
            obtain rfl := k2.out (hd 2 (by decide))
            obtain rfl := k3.out (hd 3 (by decide))
            obtain rfl := k4.out (hd 4 (by decide))
            obtain rfl := k5.out (hd 5 (by decide))
            obtain rfl := k6.out (hd 6 (by decide))
            obtain rfl := k7.out (hd 7 (by decide))
            obtain rfl := k8.out (hd 8 (by decide))
            obtain rfl := k13.out (hd 13 (by decide))
            obtain rfl := k14.out (hd 14 (by decide))
            have HW := Lib.hid hW
            clear hW hL hd
            refine wpOp_step rfl fun K hK => ?_
            go_simp
            refine hK _ _ ⟨_, _, _, _, _, _, _, _, _, _, _, _, _, _, _, _, _, _, _, _, rfl, k0, k1, k2, k3, k4, k5, k6, k7, k8, k9, k10, k11, k12, k13, k14, (Lib.hid fun _ => rfl), k16, k17, k18, k19, HW.out⟩
          · -- operation 16
            obtain rfl := k2.out (hd 2 (by decide))
            obtain rfl := k3.out (hd 3 (by decide))
            obtain rfl := k4.out (hd 4 (by decide))
            obtain rfl := k5.out (hd 5 (by decide))
            obtain rfl := k6.out (hd 6 (by decide))
            obtain rfl := k7.out (hd 7 (by decide))
            obtain rfl := k8.out (hd 8 (by decide))
            obtain rfl := k9.out (hd 9 (by decide))
            obtain rfl := k10.out (hd 10 (by decide))
            obtain rfl := k11.out (hd 11 (by decide))
            obtain rfl := k12.out (hd 12 (by decide))
            obtain rfl := k13.out (hd 13 (by decide))
            obtain rfl := k14.out (hd 14 (by decide))
            obtain rfl := k15.out (hd 15 (by decide))
            have HW := Lib.hid hW
            clear hW hL hd
            refine wpOp_step rfl fun K hK => ?_
            go_simp
            go_at_call 17
            refine (has_eq _ _ _ _ _ _ _ _ hv.out).mono ?_
            rintro _ w' ⟨rfl, hb⟩
            refine hK _ _ ⟨_, _, _, _, _, _, _, _, _, _, _, _, _, _, _, _, _, _, _, _, rfl, k0, k1, k2, k3, k4, k5, k6, k7, k8, k9, k10, k11, k12, k13, k14, k15, (Lib.hid fun _ => rfl), k17, k18, k19, HW.out.by hb⟩
          · -- operation 17
            obtain rfl := k2.out (hd 2 (by decide))
            obtain rfl := k3.out (hd 3 (by decide))
            obtain rfl := k4.out (hd 4 (by decide))
            obtain rfl := k5.out (hd 5 (by decide))
            obtain rfl := k6.out (hd 6 (by decide))
            obtain rfl := k7.out (hd 7 (by decide))
            obtain rfl := k8.out (hd 8 (by decide))
            obtain rfl := k9.out (hd 9 (by decide))
            obtain rfl := k10.out (hd 10 (by decide))
            obtain rfl := k11.out (hd 11 (by decide))
            obtain rfl := k12.out (hd 12 (by decide))
            obtain rfl := k13.out (hd 13 (by decide))
            obtain rfl := k14.out (hd 14 (by decide))
            obtain rfl := k15.out (hd 15 (by decide))
            obtain rfl := k16.out (hd 16 (by decide))
            have HW := Lib.hid hW
            clear hW hL hd
            refine wpOp_step rfl fun K hK => ?_
            go_simp
            refine hK _ _ ⟨_, _, _, _, _, _, _, _, _, _, _, _, _, _, _, _, _, _, _, _, rfl, k0, k1, k2, k3, k4, k5, k6, k7, k8, k9, k10, k11, k12, k13, k14, k15, k16, (Lib.hid fun _ => rfl), k18, k19, HW.out⟩
          · -- operation 18
            obtain rfl := k0.out (hd 0 (by decide))
            obtain rfl := k1.out (hd 1 (by decide))
            obtain rfl := k2.out (hd 2 (by decide))
            obtain rfl := k3.out (hd 3 (by decide))
            obtain rfl := k4.out (hd 4 (by decide))
            obtain rfl := k5.out (hd 5 (by decide))
            obtain rfl := k6.out (hd 6 (by decide))
            obtain rfl := k7.out (hd 7 (by decide))
            obtain rfl := k8.out (hd 8 (by decide))
            obtain rfl := k9.out (hd 9 (by decide))
            obtain rfl := k10.out (hd 10 (by decide))
            obtain rfl := k11.out (hd 11 (by decide))
            obtain rfl := k12.out (hd 12 (by decide))
            obtain rfl := k13.out (hd 13 (by decide))
            obtain rfl := k14.out (hd 14 (by decide))
            obtain rfl := k15.out (hd 15 (by decide))
            obtain rfl := k16.out (hd 16 (by decide))
            obtain rfl := k17.out (hd 17 (by decide))
            have HW := Lib.hid hW
            clear hW hL hd
            refine wpOp_step rfl fun K hK => ?_
            go_simp
            refine hK _ _ ⟨_, _, _, _, _, _, _, _, _, _, _, _, _, _, _, _, _, _, _, _, rfl, k0, k1, k2, k3, k4, k5, k6, k7, k8, k9, k10, k11, k12, k13, k14, k15, k16, k17, (Lib.hid fun _ => rfl), k19, HW.out⟩
          · -- operation 19
            obtain rfl := k0.out (hd 0 (by decide))
            obtain rfl := k1.out (hd 1 (by decide))
            obtain rfl := k2.out (hd 2 (by decide))
            obtain rfl := k3.out (hd 3 (by decide))
            obtain rfl := k4.out (hd 4 (by decide))
            obtain rfl := k5.out (hd 5 (by decide))
            obtain rfl := k6.out (hd 6 (by decide))
            obtain rfl := k7.out (hd 7 (by decide))
            obtain rfl := k8.out (hd 8 (by decide))
            obtain rfl := k9.out (hd 9 (by decide))
            obtain rfl := k10.out (hd 10 (by decide))
            obtain rfl := k11.out (hd 11 (by decide))
            obtain rfl := k12.out (hd 12 (by decide))
            obtain rfl := k13.out (hd 13 (by decide))
            obtain rfl := k14.out (hd 14 (by decide))
            obtain rfl := k15.out (hd 15 (by decide))
            obtain rfl := k16.out (hd 16 (by decide))
            obtain rfl := k17.out (hd 17 (by decide))
            obtain rfl := k18.out (hd 18 (by decide))
            have HW := Lib.hid hW
            clear hW hL hd
            refine wpOp_step rfl fun K hK => ?_
            go_simp
            refine hK _ _ ⟨_, _, _, _, _, _, _, _, _, _, _, _, _, _, _, _, _, _, _, _, rfl, k0, k1, k2, k3, k4, k5, k6, k7, k8, k9, k10, k11, k12, k13, k14, k15, k16, k17, k18, (Lib.hid fun _ => rfl), HW.out⟩
        intro L a' u hI hall
        obtain ⟨v4, v59, v60, v61, v62, v63, v64, v65, v66, v67, v68, v69, v70, v71, v72, v73, v74, v75, v76, v77, rfl, k0, k1, k2, k3, k4, k5, k6, k7, k8, k9, k10, k11, k12, k13, k14, k15, k16, k17, k18, k19, hW⟩ := hI
        obtain rfl := k0.out (hall 0 (by decide))
        obtain rfl := k1.out (hall 1 (by decide))
        obtain rfl := k2.out (hall 2 (by decide))
        obtain rfl := k3.out (hall 3 (by decide))
        obtain rfl := k4.out (hall 4 (by decide))
        obtain rfl := k5.out (hall 5 (by decide))
        obtain rfl := k6.out (hall 6 (by decide))
        obtain rfl := k7.out (hall 7 (by decide))
        obtain rfl := k8.out (hall 8 (by decide))
        obtain rfl := k9.out (hall 9 (by decide))
        obtain rfl := k10.out (hall 10 (by decide))
        obtain rfl := k11.out (hall 11 (by decide))
        obtain rfl := k12.out (hall 12 (by decide))
        obtain rfl := k13.out (hall 13 (by decide))
        obtain rfl := k14.out (hall 14 (by decide))
        obtain rfl := k15.out (hall 15 (by decide))
        obtain rfl := k16.out (hall 16 (by decide))
        obtain rfl := k17.out (hall 17 (by decide))
        obtain rfl := k18.out (hall 18 (by decide))
        obtain rfl := k19.out (hall 19 (by decide))
        clear k0 k1 k2 k3 k4 k5 k6 k7 k8 k9 k10 k11 k12 k13 k14 k15 k16 k17 k18 k19 hall
        show wpOps _ _ _ [] _ _
        unfold wpOps
        dsimp only
        have HW := Lib.hid hW
        clear hW hA
        go_wp2
        go_ret
        exact ⟨rfl, HW.out.2⟩
      | false =>
        obtain rfl : tW = false := by simpa using e2'
        clear e2' e3'
        go_wp2_with fail
        have hA := HA.out
        clear HA
        refine wp_region_tail [[], [0], [], [], [], [2, 3, 4], [2, 3, 4, 5], [2, 3, 4, 5, 6], [2, 3, 4, 5, 6], [2, 3, 4, 5, 6], [2, 3, 4, 5, 6, 7, 8, 9], [2, 3, 4, 5, 6, 7, 8, 9, 10], [0, 1, 2, 3, 4, 5, 6, 7, 8, 9, 10, 11]] (by kernel_rfl) (by kernel_rfl) 13 rfl (by decide) (by decide) (by kernel_rfl)
          (fun L a' u => ∃ v37 v38 v39 v40 v41 v42 v43 v44 v45 v46 v47 v48 v49 : Value, a' = ⟨#[.slice A1 n1 c1, .slice A2 n2 c2, undef, undef, .bool false, .pointer (some ⟨w2.heap.size, 0, none⟩), .pointer (some ⟨w2.heap.size + 1, 0, none⟩), .pointer (some ⟨w3.heap.size, 0, none⟩), .int .i64 (mx), .int .i64 (my), .slice A1 n1 c1, .agg #[.int .i64 a, .int .i64 b, .int .i64 c, .int .i64 d], .slice A2 n2 c2, .agg #[.int .i64 e, .int .i64 f, .int .i64 g, .int .i64 h], .pointer (some ⟨w2.heap.size, 0, none⟩), .int .i64 (a), .pointer (some ⟨w2.heap.size, 1, none⟩), .int .i64 (b), .agg #[.int .i64 a, .int .i64 b], .agg #[.int .i64 a, .int .i64 b, .int .i64 c, .int .i64 d], .agg #[.int .i64 e, .int .i64 f, .int .i64 g, .int .i64 h], .agg #[.bool true, .bool false, .bool q, .bool false, .bool tS, .int .i64 tx, .int .i64 ty], .pointer (some ⟨w3.heap.size, 0, none⟩), .bool true, .pointer (some ⟨w3.heap.size, 3, none⟩), .bool false, .bool false, .pointer (some ⟨w2.heap.size, 0, none⟩), .int .i64 (a), .pointer (some ⟨w2.heap.size + 1, 0, none⟩), .int .i64 (e), .int .i64 (mx), .pointer (some ⟨w2.heap.size, 1, none⟩), .int .i64 (b), .pointer (some ⟨w2.heap.size + 1, 1, none⟩), .int .i64 (f), .int .i64 (my), v37, v38, v39, v40, v41, v42, v43, v44, v45, v46, v47, v48, v49, undef, undef, undef, undef, undef, undef, undef, undef, undef, undef, undef, undef, undef, undef, undef, undef, undef, undef, undef, undef, undef, undef, undef, undef, undef, undef, undef, undef], []⟩ ∧
            Hid (L 0 = true → v37 = .pointer (some ⟨w3.heap.size, 2, none⟩)) ∧ Hid (L 1 = true → v38 = .bool q) ∧ Hid (L 2 = true → v39 = .agg #[.int .i64 a, .int .i64 b, .int .i64 c, .int .i64 d]) ∧ Hid (L 3 = true → v40 = .int .i64 (mx)) ∧ Hid (L 4 = true → v41 = .int .i64 (my)) ∧ Hid (L 5 = true → v42 = .bool true) ∧ Hid (L 6 = true → v43 = .bool true) ∧ Hid (L 7 = true → v44 = .agg #[.int .i64 e, .int .i64 f, .int .i64 g, .int .i64 h]) ∧ Hid (L 8 = true → v45 = .int .i64 (mx)) ∧ Hid (L 9 = true → v46 = .int .i64 (my)) ∧ Hid (L 10 = true → v47 = .bool q) ∧ Hid (L 11 = true → v48 = .bool q) ∧ Hid (L 12 = true → v49 = .bool false) ∧ (Ats [(w2.heap.size, 24, [.int .i64 a, .int .i64 b, .int .i64 c, .int .i64 d]), (w2.heap.size + 1, 24, [.int .i64 e, .int .i64 f, .int .i64 g, .int .i64 h]), (w3.heap.size, 29, [.bool true, .bool false, .bool q, .bool false, .bool tS, .int .i64 tx, .int .i64 ty])] w u)) ?_ ?_ ?_
        · refine ⟨_, _, _, _, _, _, _, _, _, _, _, _, _, rfl, (Lib.hid fun h => by cases h), (Lib.hid fun h => by cases h), (Lib.hid fun h => by cases h), (Lib.hid fun h => by cases h), (Lib.hid fun h => by cases h), (Lib.hid fun h => by cases h), (Lib.hid fun h => by cases h), (Lib.hid fun h => by cases h), (Lib.hid fun h => by cases h), (Lib.hid fun h => by cases h), (Lib.hid fun h => by cases h), (Lib.hid fun h => by cases h), (Lib.hid fun h => by cases h), ?_⟩
          exact hA.drew
        · intro L a' u i hi hI hL hd
          obtain ⟨v37, v38, v39, v40, v41, v42, v43, v44, v45, v46, v47, v48, v49, rfl, k0, k1, k2, k3, k4, k5, k6, k7, k8, k9, k10, k11, k12, hW⟩ := hI
          obtain rfl | rfl | rfl | rfl | rfl | rfl | rfl | rfl | rfl | rfl | rfl | rfl | rfl : i = 0 ∨ i = 1 ∨ i = 2 ∨ i = 3 ∨ i = 4 ∨ i = 5 ∨ i = 6 ∨ i = 7 ∨ i = 8 ∨ i = 9 ∨ i = 10 ∨ i = 11 ∨ i = 12 := by omega
          · -- operation 0
            have HW := Lib.hid hW
            clear hW hL hd
            refine wpOp_step rfl fun K hK => ?_
            go_simp
            refine hK _ _ ⟨_, _, _, _, _, _, _, _, _, _, _, _, _, rfl, (Lib.hid fun _ => rfl), k1, k2, k3, k4, k5, k6, k7, k8, k9, k10, k11, k12, HW.out⟩
          · -- operation 1
            obtain rfl := k0.out (hd 0 (by decide))
            obtain ⟨c0, c1, c2, c3, c4, c5, c6⟩ := (hW.nth 2 rfl).seven.1
            have HW := Lib.hid hW
            clear hW hL hd
            refine wpOp_step rfl fun K hK => ?_
            go_simp
            refine hK _ _ ⟨_, _, _, _, _, _, _, _, _, _, _, _, _, rfl, k0, (Lib.hid fun _ => rfl), k2, k3, k4, k5, k6, k7, k8, k9, k10, k11, k12, HW.out⟩
          · -- operation 2
            obtain ⟨c0, c1, c2, c3⟩ := (hW.nth 0 rfl).four.1
            have HW := Lib.hid hW
            clear hW hL hd
            refine wpOp_step rfl fun K hK => ?_
            go_simp
            refine hK _ _ ⟨_, _, _, _, _, _, _, _, _, _, _, _, _, rfl, k0, k1, (Lib.hid fun _ => rfl), k3, k4, k5, k6, k7, k8, k9, k10, k11, k12, HW.out⟩
          · -- operation 3
            have HW := Lib.hid hW
            clear hW hL hd
            refine wpOp_step rfl fun K hK => ?_
            go_simp
            refine hK _ _ ⟨_, _, _, _, _, _, _, _, _, _, _, _, _, rfl, k0, k1, k2, (Lib.hid fun _ => rfl), k4, k5, k6, k7, k8, k9, k10, k11, k12, HW.out⟩
          · -- operation 4
            have HW := Lib.hid hW
            clear hW hL hd
            refine wpOp_step rfl fun K hK => ?_
            go_simp
            refine hK _ _ ⟨_, _, _, _, _, _, _, _, _, _, _, _, _, rfl, k0, k1, k2, k3, (Lib.hid fun _ => rfl), k5, k6, k7, k8, k9, k10, k11, k12, HW.out⟩
          · -- operation 5
            obtain rfl := k2.out (hd 2 (by decide))
            obtain rfl := k3.out (hd 3 (by decide))
            obtain rfl := k4.out (hd 4 (by decide))
            have HW := Lib.hid hW
            clear hW hL hd
            refine wpOp_step rfl fun K hK => ?_
            go_simp
            go_at_call 17
            refine (has_eq _ _ _ _ _ _ _ _ hp.out).mono ?_
            rintro _ w' ⟨rfl, hb⟩
            refine hK _ _ ⟨_, _, _, _, _, _, _, _, _, _, _, _, _, rfl, k0, k1, k2, k3, k4, (Lib.hid fun _ => rfl), k6, k7, k8, k9, k10, k11, k12, HW.out.by hb⟩
          · -- operation 6
            obtain rfl := k2.out (hd 2 (by decide))
            obtain rfl := k3.out (hd 3 (by decide))
            obtain rfl := k4.out (hd 4 (by decide))
            obtain rfl := k5.out (hd 5 (by decide))
            have HW := Lib.hid hW
            clear hW hL hd
            refine wpOp_step rfl fun K hK => ?_
            go_simp
            refine hK _ _ ⟨_, _, _, _, _, _, _, _, _, _, _, _, _, rfl, k0, k1, k2, k3, k4, k5, (Lib.hid fun _ => rfl), k7, k8, k9, k10, k11, k12, HW.out⟩
          · -- operation 7
            obtain rfl := k2.out (hd 2 (by decide))
            obtain rfl := k3.out (hd 3 (by decide))
            obtain rfl := k4.out (hd 4 (by decide))
            obtain rfl := k5.out (hd 5 (by decide))
            obtain rfl := k6.out (hd 6 (by decide))
            obtain ⟨c0, c1, c2, c3⟩ := (hW.nth 1 rfl).four.1
            have HW := Lib.hid hW
            clear hW hL hd
            refine wpOp_step rfl fun K hK => ?_
            go_simp
            refine hK _ _ ⟨_, _, _, _, _, _, _, _, _, _, _, _, _, rfl, k0, k1, k2, k3, k4, k5, k6, (Lib.hid fun _ => rfl), k8, k9, k10, k11, k12, HW.out⟩
          · -- operation 8
            obtain rfl := k2.out (hd 2 (by decide))
            obtain rfl := k3.out (hd 3 (by decide))
            obtain rfl := k4.out (hd 4 (by decide))
            obtain rfl := k5.out (hd 5 (by decide))
            obtain rfl := k6.out (hd 6 (by decide))
            have HW := Lib.hid hW
            clear hW hL hd
            refine wpOp_step rfl fun K hK => ?_
            go_simp
            refine hK _ _ ⟨_, _, _, _, _, _, _, _, _, _, _, _, _, rfl, k0, k1, k2, k3, k4, k5, k6, k7, (Lib.hid fun _ => rfl), k9, k10, k11, k12, HW.out⟩
          · -- operation 9
            obtain rfl := k2.out (hd 2 (by decide))
            obtain rfl := k3.out (hd 3 (by decide))
            obtain rfl := k4.out (hd 4 (by decide))
            obtain rfl := k5.out (hd 5 (by decide))
            obtain rfl := k6.out (hd 6 (by decide))
            have HW := Lib.hid hW
            clear hW hL hd
            refine wpOp_step rfl fun K hK => ?_
            go_simp
            refine hK _ _ ⟨_, _, _, _, _, _, _, _, _, _, _, _, _, rfl, k0, k1, k2, k3, k4, k5, k6, k7, k8, (Lib.hid fun _ => rfl), k10, k11, k12, HW.out⟩
          · -- operation 10
            obtain rfl := k2.out (hd 2 (by decide))
            obtain rfl := k3.out (hd 3 (by decide))
            obtain rfl := k4.out (hd 4 (by decide))
            obtain rfl := k5.out (hd 5 (by decide))
            obtain rfl := k6.out (hd 6 (by decide))
            obtain rfl := k7.out (hd 7 (by decide))
            obtain rfl := k8.out (hd 8 (by decide))
            obtain rfl := k9.out (hd 9 (by decide))
            have HW := Lib.hid hW
            clear hW hL hd
            refine wpOp_step rfl fun K hK => ?_
            go_simp
            go_at_call 17
            refine (has_eq _ _ _ _ _ _ _ _ hq.out).mono ?_
            rintro _ w' ⟨rfl, hb⟩
            refine hK _ _ ⟨_, _, _, _, _, _, _, _, _, _, _, _, _, rfl, k0, k1, k2, k3, k4, k5, k6, k7, k8, k9, (Lib.hid fun _ => rfl), k11, k12, HW.out.by hb⟩
          · -- operation 11
            obtain rfl := k2.out (hd 2 (by decide))
            obtain rfl := k3.out (hd 3 (by decide))
            obtain rfl := k4.out (hd 4 (by decide))
            obtain rfl := k5.out (hd 5 (by decide))
            obtain rfl := k6.out (hd 6 (by decide))
            obtain rfl := k7.out (hd 7 (by decide))
            obtain rfl := k8.out (hd 8 (by decide))
            obtain rfl := k9.out (hd 9 (by decide))
            obtain rfl := k10.out (hd 10 (by decide))
            have HW := Lib.hid hW
            clear hW hL hd
            refine wpOp_step rfl fun K hK => ?_
            go_simp
            refine hK _ _ ⟨_, _, _, _, _, _, _, _, _, _, _, _, _, rfl, k0, k1, k2, k3, k4, k5, k6, k7, k8, k9, k10, (Lib.hid fun _ => rfl), k12, HW.out⟩
          · -- operation 12
            obtain rfl := k0.out (hd 0 (by decide))
            obtain rfl := k1.out (hd 1 (by decide))
            obtain rfl := k2.out (hd 2 (by decide))
            obtain rfl := k3.out (hd 3 (by decide))
            obtain rfl := k4.out (hd 4 (by decide))
            obtain rfl := k5.out (hd 5 (by decide))
            obtain rfl := k6.out (hd 6 (by decide))
            obtain rfl := k7.out (hd 7 (by decide))
            obtain rfl := k8.out (hd 8 (by decide))
            obtain rfl := k9.out (hd 9 (by decide))
            obtain rfl := k10.out (hd 10 (by decide))
            obtain rfl := k11.out (hd 11 (by decide))
            have HW := Lib.hid hW
            clear hW hL hd
            refine wpOp_step rfl fun K hK => ?_
            go_simp
            refine hK _ _ ⟨_, _, _, _, _, _, _, _, _, _, _, _, _, rfl, k0, k1, k2, k3, k4, k5, k6, k7, k8, k9, k10, k11, (Lib.hid fun _ => rfl), HW.out⟩
        intro L a' u hI hall
        obtain ⟨v37, v38, v39, v40, v41, v42, v43, v44, v45, v46, v47, v48, v49, rfl, k0, k1, k2, k3, k4, k5, k6, k7, k8, k9, k10, k11, k12, hW⟩ := hI
        obtain rfl := k0.out (hall 0 (by decide))
        obtain rfl := k1.out (hall 1 (by decide))
        obtain rfl := k2.out (hall 2 (by decide))
        obtain rfl := k3.out (hall 3 (by decide))
        obtain rfl := k4.out (hall 4 (by decide))
        obtain rfl := k5.out (hall 5 (by decide))
        obtain rfl := k6.out (hall 6 (by decide))
        obtain rfl := k7.out (hall 7 (by decide))
        obtain rfl := k8.out (hall 8 (by decide))
        obtain rfl := k9.out (hall 9 (by decide))
        obtain rfl := k10.out (hall 10 (by decide))
        obtain rfl := k11.out (hall 11 (by decide))
        obtain rfl := k12.out (hall 12 (by decide))
        clear k0 k1 k2 k3 k4 k5 k6 k7 k8 k9 k10 k11 k12 hall
        show wpOps _ _ _ [] _ _
        unfold wpOps
        dsimp only
        have HW := Lib.hid hW
        obtain ⟨c0, c1, c2, c3, c4, c5, c6⟩ := (hW.nth 2 rfl).seven.1
        clear hW hA
        go_wp2_with fail
        clear c0 c1 c2 c3 c4 c5 c6
        have hA := HW.out
        clear HW
        refine wp_region_tail [[], [0], [], [], [3], [], [5], [2, 3, 4, 5, 6], [2, 3, 4, 5, 6, 7], [2, 3, 4, 5, 6, 7, 8], [2, 3, 4, 5, 6, 7, 8], [2, 3, 4, 5, 6, 7, 8, 10], [2, 3, 4, 5, 6, 7, 8, 10, 11], [2, 3, 4, 5, 6, 7, 8], [2, 3, 4, 5, 6, 7, 8, 13], [2, 3, 4, 5, 6, 7, 8, 13, 14], [2, 3, 4, 5, 6, 7, 8, 9, 10, 11, 12, 13, 14, 15], [2, 3, 4, 5, 6, 7, 8, 9, 10, 11, 12, 13, 14, 15, 16], [0, 1, 2, 3, 4, 5, 6, 7, 8, 9, 10, 11, 12, 13, 14, 15, 16, 17], [0, 1, 2, 3, 4, 5, 6, 7, 8, 9, 10, 11, 12, 13, 14, 15, 16, 17, 18]] (by kernel_rfl) (by kernel_rfl) 20 rfl (by decide) (by decide) (by kernel_rfl)
          (fun L a' u => ∃ v4 v59 v60 v61 v62 v63 v64 v65 v66 v67 v68 v69 v70 v71 v72 v73 v74 v75 v76 v77 : Value, a' = ⟨#[.slice A1 n1 c1, .slice A2 n2 c2, undef, undef, v4, .pointer (some ⟨w2.heap.size, 0, none⟩), .pointer (some ⟨w2.heap.size + 1, 0, none⟩), .pointer (some ⟨w3.heap.size, 0, none⟩), .int .i64 (mx), .int .i64 (my), .slice A1 n1 c1, .agg #[.int .i64 a, .int .i64 b, .int .i64 c, .int .i64 d], .slice A2 n2 c2, .agg #[.int .i64 e, .int .i64 f, .int .i64 g, .int .i64 h], .pointer (some ⟨w2.heap.size, 0, none⟩), .int .i64 (a), .pointer (some ⟨w2.heap.size, 1, none⟩), .int .i64 (b), .agg #[.int .i64 a, .int .i64 b], .agg #[.int .i64 a, .int .i64 b, .int .i64 c, .int .i64 d], .agg #[.int .i64 e, .int .i64 f, .int .i64 g, .int .i64 h], .agg #[.bool true, .bool false, .bool q, .bool false, .bool tS, .int .i64 tx, .int .i64 ty], .pointer (some ⟨w3.heap.size, 0, none⟩), .bool true, .pointer (some ⟨w3.heap.size, 3, none⟩), .bool false, .bool false, .pointer (some ⟨w2.heap.size, 0, none⟩), .int .i64 (a), .pointer (some ⟨w2.heap.size + 1, 0, none⟩), .int .i64 (e), .int .i64 (mx), .pointer (some ⟨w2.heap.size, 1, none⟩), .int .i64 (b), .pointer (some ⟨w2.heap.size + 1, 1, none⟩), .int .i64 (f), .int .i64 (my), .pointer (some ⟨w3.heap.size, 2, none⟩), .bool q, .agg #[.int .i64 a, .int .i64 b, .int .i64 c, .int .i64 d], .int .i64 (mx), .int .i64 (my), .bool true, .bool true, .agg #[.int .i64 e, .int .i64 f, .int .i64 g, .int .i64 h], .int .i64 (mx), .int .i64 (my), .bool q, .bool q, .bool false, .pointer (some ⟨w3.heap.size, 3, none⟩), .bool false, undef, undef, undef, undef, undef, undef, undef, v59, v60, v61, v62, v63, v64, v65, v66, v67, v68, v69, v70, v71, v72, v73, v74, v75, v76, v77], []⟩ ∧
            Hid (L 0 = true → v59 = .pointer (some ⟨w3.heap.size, 1, none⟩)) ∧ Hid (L 1 = true → v60 = .bool false) ∧ Hid (L 2 = true → v61 = .agg #[.int .i64 e, .int .i64 f, .int .i64 g, .int .i64 h]) ∧ Hid (L 3 = true → v62 = .pointer (some ⟨w2.heap.size, 0, none⟩)) ∧ Hid (L 4 = true → v63 = .int .i64 (a)) ∧ Hid (L 5 = true → v64 = .pointer (some ⟨w2.heap.size, 1, none⟩)) ∧ Hid (L 6 = true → v65 = .int .i64 (b)) ∧ Hid (L 7 = true → v66 = .bool false) ∧ Hid (L 8 = true → v67 = .bool false) ∧ Hid (L 9 = true → v68 = undef) ∧ Hid (L 10 = true → v69 = undef) ∧ Hid (L 11 = true → v70 = undef) ∧ Hid (L 12 = true → v71 = undef) ∧ Hid (L 13 = true → v72 = undef) ∧ Hid (L 14 = true → v73 = undef) ∧ Hid (L 15 = true → v74 = undef) ∧ Hid (L 16 = true → v75 = undef) ∧ Hid (L 17 = true → v76 = .bool false) ∧ Hid (L 18 = true → v77 = .bool true) ∧ Hid (L 19 = true → v4 = .bool true) ∧ (Ats [(w2.heap.size, 24, [.int .i64 a, .int .i64 b, .int .i64 c, .int .i64 d]), (w2.heap.size + 1, 24, [.int .i64 e, .int .i64 f, .int .i64 g, .int .i64 h]), (w3.heap.size, 29, [.bool true, .bool false, .bool q, .bool false, .bool tS, .int .i64 tx, .int .i64 ty])] w u)) ?_ ?_ ?_
        · refine ⟨_, _, _, _, _, _, _, _, _, _, _, _, _, _, _, _, _, _, _, _, rfl, (Lib.hid fun h => by cases h), (Lib.hid fun h => by cases h), (Lib.hid fun h => by cases h), (Lib.hid fun h => by cases h), (Lib.hid fun h => by cases h), (Lib.hid fun h => by cases h), (Lib.hid fun h => by cases h), (Lib.hid fun h => by cases h), (Lib.hid fun h => by cases h), (Lib.hid fun h => by cases h), (Lib.hid fun h => by cases h), (Lib.hid fun h => by cases h), (Lib.hid fun h => by cases h), (Lib.hid fun h => by cases h), (Lib.hid fun h => by cases h), (Lib.hid fun h => by cases h), (Lib.hid fun h => by cases h), (Lib.hid fun h => by cases h), (Lib.hid fun h => by cases h), (Lib.hid fun h => by cases h), ?_⟩
          exact hA.drew
        · intro L a' u i hi hI hL hd
          obtain ⟨v4, v59, v60, v61, v62, v63, v64, v65, v66, v67, v68, v69, v70, v71, v72, v73, v74, v75, v76, v77, rfl, k0, k1, k2, k3, k4, k5, k6, k7, k8, k9, k10, k11, k12, k13, k14, k15, k16, k17, k18, k19, hW⟩ := hI
          obtain rfl | rfl | rfl | rfl | rfl | rfl | rfl | rfl | rfl | rfl | rfl | rfl | rfl | rfl | rfl | rfl | rfl | rfl | rfl | rfl : i = 0 ∨ i = 1 ∨ i = 2 ∨ i = 3 ∨ i = 4 ∨ i = 5 ∨ i = 6 ∨ i = 7 ∨ i = 8 ∨ i = 9 ∨ i = 10 ∨ i = 11 ∨ i = 12 ∨ i = 13 ∨ i = 14 ∨ i = 15 ∨ i = 16 ∨ i = 17 ∨ i = 18 ∨ i = 19 := by omega
          · -- operation 0
            have HW := Lib.hid hW
            clear hW hL hd
            refine wpOp_step rfl fun K hK => ?_
            go_simp
            refine hK _ _ ⟨_, _, _, _, _, _, _, _, _, _, _, _, _, _, _, _, _, _, _, _, rfl, (Lib.hid fun _ => rfl), k1, k2, k3, k4, k5, k6, k7, k8, k9, k10, k11, k12, k13, k14, k15, k16, k17, k18, k19, HW.out⟩
          · -- operation 1
            obtain rfl := k0.out (hd 0 (by decide))
            obtain ⟨c0, c1, c2, c3, c4, c5, c6⟩ := (hW.nth 2 rfl).seven.1
            have HW := Lib.hid hW
            clear hW hL hd
            refine wpOp_step rfl fun K hK => ?_
            go_simp
            refine hK _ _ ⟨_, _, _, _, _, _, _, _, _, _, _, _, _, _, _, _, _, _, _, _, rfl, k0, (Lib.hid fun _ => rfl), k2, k3, k4, k5, k6, k7, k8, k9, k10, k11, k12, k13, k14, k15, k16, k17, k18, k19, HW.out⟩
          · -- operation 2
            obtain ⟨c0, c1, c2, c3⟩ := (hW.nth 1 rfl).four.1
            have HW := Lib.hid hW
            clear hW hL hd
            refine wpOp_step rfl fun K hK => ?_
            go_simp
            refine hK _ _ ⟨_, _, _, _, _, _, _, _, _, _, _, _, _, _, _, _, _, _, _, _, rfl, k0, k1, (Lib.hid fun _ => rfl), k3, k4, k5, k6, k7, k8, k9, k10, k11, k12, k13, k14, k15, k16, k17, k18, k19, HW.out⟩
          · -- operation 3
            have HW := Lib.hid hW
            clear hW hL hd
            refine wpOp_step rfl fun K hK => ?_
            go_simp
            refine hK _ _ ⟨_, _, _, _, _, _, _, _, _, _, _, _, _, _, _, _, _, _, _, _, rfl, k0, k1, k2, (Lib.hid fun _ => rfl), k4, k5, k6, k7, k8, k9, k10, k11, k12, k13, k14, k15, k16, k17, k18, k19, HW.out⟩
          · -- operation 4
            obtain rfl := k3.out (hd 3 (by decide))
            obtain ⟨c0, c1, c2, c3⟩ := (hW.nth 0 rfl).four.1
            have HW := Lib.hid hW
            clear hW hL hd
            refine wpOp_step rfl fun K hK => ?_
            go_simp
            refine hK _ _ ⟨_, _, _, _, _, _, _, _, _, _, _, _, _, _, _, _, _, _, _, _, rfl, k0, k1, k2, k3, (Lib.hid fun _ => rfl), k5, k6, k7, k8, k9, k10, k11, k12, k13, k14, k15, k16, k17, k18, k19, HW.out⟩
          · -- operation 5
            have HW := Lib.hid hW
            clear hW hL hd
            refine wpOp_step rfl fun K hK => ?_
            go_simp
            refine hK _ _ ⟨_, _, _, _, _, _, _, _, _, _, _, _, _, _, _, _, _, _, _, _, rfl, k0, k1, k2, k3, k4, (Lib.hid fun _ => rfl), k6, k7, k8, k9, k10, k11, k12, k13, k14, k15, k16, k17, k18, k19, HW.out⟩
          · -- operation 6
            obtain rfl := k5.out (hd 5 (by decide))
            obtain ⟨c0, c1, c2, c3⟩ := (hW.nth 0 rfl).four.1
            have HW := Lib.hid hW
            clear hW hL hd
            refine wpOp_step rfl fun K hK => ?_
            go_simp
            refine hK _ _ ⟨_, _, _, _, _, _, _, _, _, _, _, _, _, _, _, _, _, _, _, _, rfl, k0, k1, k2, k3, k4, k5, (Lib.hid fun _ => rfl), k7, k8, k9, k10, k11, k12, k13, k14, k15, k16, k17, k18, k19, HW.out⟩
          · -- operation 7
            obtain rfl := k2.out (hd 2 (by decide))
            obtain rfl := k3.out (hd 3 (by decide))
            obtain rfl := k4.out (hd 4 (by decide))
            obtain rfl := k5.out (hd 5 (by decide))
            obtain rfl := k6.out (hd 6 (by decide))
            have HW := Lib.hid hW
            clear hW hL hd
            refine wpOp_step rfl fun K hK => ?_
            go_simp
            go_at_call 17
            refine (has_eq _ _ _ _ _ _ _ _ hu.out).mono ?_
            rintro _ w' ⟨rfl, hb⟩
            refine hK _ _ ⟨_, _, _, _, _, _, _, _, _, _, _, _, _, _, _, _, _, _, _, _, rfl, k0, k1, k2, k3, k4, k5, k6, (Lib.hid fun _ => rfl), k8, k9, k10, k11, k12, k13, k14, k15, k16, k17, k18, k19, HW.out.by hb⟩
          · -- operation 8
            obtain rfl := k2.out (hd 2 (by decide))
            obtain rfl := k3.out (hd 3 (by decide))
            obtain rfl := k4.out (hd 4 (by decide))
            obtain rfl := k5.out (hd 5 (by decide))
            obtain rfl := k6.out (hd 6 (by decide))
            obtain rfl := k7.out (hd 7 (by decide))
            have HW := Lib.hid hW
            clear hW hL hd
            refine wpOp_step rfl fun K hK => ?_
            go_simp
            refine hK _ _ ⟨_, _, _, _, _, _, _, _, _, _, _, _, _, _, _, _, _, _, _, _, rfl, k0, k1, k2, k3, k4, k5, k6, k7, (Lib.hid fun _ => rfl), k9, k10, k11, k12, k13, k14, k15, k16, k17, k18, k19, HW.out⟩
          · -- operation 9
            obtain rfl := k2.out (hd 2 (by decide))
            obtain rfl := k3.out (hd 3 (by decide))
            obtain rfl := k4.out (hd 4 (by decide))
            obtain rfl := k5.out (hd 5 (by decide))
            obtain rfl := k6.out (hd 6 (by decide))
            obtain rfl := k7.out (hd 7 (by decide))
            obtain rfl := k8.out (hd 8 (by decide))
            have HW := Lib.hid hW
            clear hW hL hd
            refine wpOp_step rfl fun K hK => ?_
            go_simp
            refine hK _ _ ⟨_, _, _, _, _, _, _, _, _, _, _, _, _, _, _, _, _, _, _, _, rfl, k0, k1, k2, k3, k4, k5, k6, k7, k8, (Lib.hid fun _ => rfl), k10, k11, k12, k13, k14, k15, k16, k17, k18, k19, HW.out⟩
          · -- operation 10
            obtain rfl := k2.out (hd 2 (by decide))
            obtain rfl := k3.out (hd 3 (by decide))
            obtain rfl := k4.out (hd 4 (by decide))
            obtain rfl := k5.out (hd 5 (by decide))
            obtain rfl := k6.out (hd 6 (by decide))
            obtain rfl := k7.out (hd 7 (by decide))
            obtain rfl := k8.out (hd 8 (by decide))
            have HW := Lib.hid hW
            clear hW hL hd
            refine wpOp_step rfl fun K hK => ?_
            go_simp
            refine hK _ _ ⟨_, _, _, _, _, _, _, _, _, _, _, _, _, _, _, _, _, _, _, _, rfl, k0, k1, k2, k3, k4, k5, k6, k7, k8, k9, (Lib.hid fun _ => rfl), k11, k12, k13, k14, k15, k16, k17, k18, k19, HW.out⟩
          · -- operation 11
            obtain rfl := k2.out (hd 2 (by decide))
            obtain rfl := k3.out (hd 3 (by decide))
            obtain rfl := k4.out (hd 4 (by decide))
            obtain rfl := k5.out (hd 5 (by decide))
            obtain rfl := k6.out (hd 6 (by decide))
            obtain rfl := k7.out (hd 7 (by decide))
            obtain rfl := k8.out (hd 8 (by decide))
            obtain rfl := k10.out (hd 10 (by decide))
            have HW := Lib.hid hW
            clear hW hL hd
            refine wpOp_step rfl fun K hK => ?_
            go_simp
            refine hK _ _ ⟨_, _, _, _, _, _, _, _, _, _, _, _, _, _, _, _, _, _, _, _, rfl, k0, k1, k2, k3, k4, k5, k6, k7, k8, k9, k10, (Lib.hid fun _ => rfl), k12, k13, k14, k15, k16, k17, k18, k19, HW.out⟩
          · -- operation 12
            obtain rfl := k2.out (hd 2 (by decide))
            obtain rfl := k3.out (hd 3 (by decide))
            obtain rfl := k4.out (hd 4 (by decide))
            obtain rfl := k5.out (hd 5 (by decide))
            obtain rfl := k6.out (hd 6 (by decide))
            obtain rfl := k7.out (hd 7 (by decide))
            obtain rfl := k8.out (hd 8 (by decide))
            obtain rfl := k10.out (hd 10 (by decide))
            obtain rfl := k11.out (hd 11 (by decide))
            have HW := Lib.hid hW
            clear hW hL hd
            refine wpOp_step rfl fun K hK => ?_
            go_simp
            refine hK _ _ ⟨_, _, _, _, _, _, _, _, _, _, _, _, _, _, _, _, _, _, _, _, rfl, k0, k1, k2, k3, k4, k5, k6, k7, k8, k9, k10, k11, (Lib.hid fun _ => rfl), k13, k14, k15, k16, k17, k18, k19, HW.out⟩
          · -- operation 13
            obtain rfl := k2.out (hd 2 (by decide))
            obtain rfl := k3.out (hd 3 (by decide))
            obtain rfl := k4.out (hd 4 (by decide))
            obtain rfl := k5.out (hd 5 (by decide))
            obtain rfl := k6.out (hd 6 (by decide))
            obtain rfl := k7.out (hd 7 (by decide))
            obtain rfl := k8.out (hd 8 (by decide))
            have HW := Lib.hid hW
            clear hW hL hd
            refine wpOp_step rfl fun K hK => ?_
            go_simp
            refine hK _ _ ⟨_, _, _, _, _, _, _, _, _, _, _, _, _, _, _, _, _, _, _, _, rfl, k0, k1, k2, k3, k4, k5, k6, k7, k8, k9, k10, k11, k12, (Lib.hid fun _ => rfl), k14, k15, k16, k17, k18, k19, HW.out⟩
          · -- operation 14
            obtain rfl := k2.out (hd 2 (by decide))
            obtain rfl := k3.out (hd 3 (by decide))
            obtain rfl := k4.out (hd 4 (by decide))
            obtain rfl := k5.out (hd 5 (by decide))
            obtain rfl := k6.out (hd 6 (by decide))
            obtain rfl := k7.out (hd 7 (by decide))
            obtain rfl := k8.out (hd 8 (by decide))
            obtain rfl := k13.out (hd 13 (by decide))
            have HW := Lib.hid hW
            clear hW hL hd
            refine wpOp_step rfl fun K hK => ?_
            go_simp
            refine hK _ _ ⟨_, _, _, _, _, _, _, _, _, _, _, _, _, _, _, _, _, _, _, _, rfl, k0, k1, k2, k3, k4, k5, k6, k7, k8, k9, k10, k11, k12, k13, (Lib.hid fun _ => rfl), k15, k16, k17, k18, k19, HW.out⟩
          · -- operation 15
            obtain rfl := k2.out (hd 2 (by decide))
            obtain rfl := k3.out (hd 3 (by decide))
            obtain rfl := k4.out (hd 4 (by decide))
            obtain rfl := k5.out (hd 5 (by decide))
            obtain rfl := k6.out (hd 6 (by decide))
            obtain rfl := k7.out (hd 7 (by decide))
            obtain rfl := k8.out (hd 8 (by decide))
            obtain rfl := k13.out (hd 13 (by decide))
            obtain rfl := k14.out (hd 14 (by decide))
            have HW := Lib.hid hW
            clear hW hL hd
            refine wpOp_step rfl fun K hK => ?_
            go_simp
            refine hK _ _ ⟨_, _, _, _, _, _, _, _, _, _, _, _, _, _, _, _, _, _, _, _, rfl, k0, k1, k2, k3, k4, k5, k6, k7, k8, k9, k10, k11, k12, k13, k14, (Lib.hid fun _ => rfl), k16, k17, k18, k19, HW.out⟩
          · -- operation 16
            obtain rfl := k2.out (hd 2 (by decide))
            obtain rfl := k3.out (hd 3 (by decide))
            obtain rfl := k4.out (hd 4 (by decide))
            obtain rfl := k5.out (hd 5 (by decide))
            obtain rfl := k6.out (hd 6 (by decide))
            obtain rfl := k7.out (hd 7 (by decide))
            obtain rfl := k8.out (hd 8 (by decide))
            obtain rfl := k9.out (hd 9 (by decide))
            obtain rfl := k10.out (hd 10 (by decide))
            obtain rfl := k11.out (hd 11 (by decide))
            obtain rfl := k12.out (hd 12 (by decide))
            obtain rfl := k13.out (hd 13 (by decide))
            obtain rfl := k14.out (hd 14 (by decide))
            obtain rfl := k15.out (hd 15 (by decide))
            have HW := Lib.hid hW
            clear hW hL hd
            refine wpOp_step rfl fun K hK => ?_
            go_simp
            refine hK _ _ ⟨_, _, _, _, _, _, _, _, _, _, _, _, _, _, _, _, _, _, _, _, rfl, k0, k1, k2, k3, k4, k5, k6, k7, k8, k9, k10, k11, k12, k13, k14, k15, (Lib.hid fun _ => rfl), k17, k18, k19, HW.out⟩
          · -- operation 17
            obtain rfl := k2.out (hd 2 (by decide))
            obtain rfl := k3.out (hd 3 (by decide))
            obtain rfl := k4.out (hd 4 (by decide))
            obtain rfl := k5.out (hd 5 (by decide))
            obtain rfl := k6.out (hd 6 (by decide))
            obtain rfl := k7.out (hd 7 (by decide))
            obtain rfl := k8.out (hd 8 (by decide))
            obtain rfl := k9.out (hd 9 (by decide))
            obtain rfl := k10.out (hd 10 (by decide))
            obtain rfl := k11.out (hd 11 (by decide))
            obtain rfl := k12.out (hd 12 (by decide))
            obtain rfl := k13.out (hd 13 (by decide))
            obtain rfl := k14.out (hd 14 (by decide))
            obtain rfl := k15.out (hd 15 (by decide))
            obtain rfl := k16.out (hd 16 (by decide))
            have HW := Lib.hid hW
            clear hW hL hd
            refine wpOp_step rfl fun K hK => ?_
            go_simp
            refine hK _ _ ⟨_, _, _, _, _, _, _, _, _, _, _, _, _, _, _, _, _, _, _, _, rfl, k0, k1, k2, k3, k4, k5, k6, k7, k8, k9, k10, k11, k12, k13, k14, k15, k16, (Lib.hid fun _ => rfl), k18, k19, HW.out⟩
          · -- operation 18
            obtain rfl := k0.out (hd 0 (by decide))
            obtain rfl := k1.out (hd 1 (by decide))
            obtain rfl := k2.out (hd 2 (by decide))
            obtain rfl := k3.out (hd 3 (by decide))
            obtain rfl := k4.out (hd 4 (by decide))
            obtain rfl := k5.out (hd 5 (by decide))
            obtain rfl := k6.out (hd 6 (by decide))
            obtain rfl := k7.out (hd 7 (by decide))
            obtain rfl := k8.out (hd 8 (by decide))
            obtain rfl := k9.out (hd 9 (by decide))
            obtain rfl := k10.out (hd 10 (by decide))
            obtain rfl := k11.out (hd 11 (by decide))
            obtain rfl := k12.out (hd 12 (by decide))
            obtain rfl := k13.out (hd 13 (by decide))
            obtain rfl := k14.out (hd 14 (by decide))
            obtain rfl := k15.out (hd 15 (by decide))
            obtain rfl := k16.out (hd 16 (by decide))
            obtain rfl := k17.out (hd 17 (by decide))
            have HW := Lib.hid hW
            clear hW hL hd
            refine wpOp_step rfl fun K hK => ?_
            go_simp
            refine hK _ _ ⟨_, _, _, _, _, _, _, _, _, _, _, _, _, _, _, _, _, _, _, _, rfl, k0, k1, k2, k3, k4, k5, k6, k7, k8, k9, k10, k11, k12, k13, k14, k15, k16, k17, (Lib.hid fun _ => rfl), k19, HW.out⟩
          · -- operation 19
            obtain rfl := k0.out (hd 0 (by decide))
            obtain rfl := k1.out (hd 1 (by decide))
            obtain rfl := k2.out (hd 2 (by decide))
            obtain rfl := k3.out (hd 3 (by decide))
            obtain rfl := k4.out (hd 4 (by decide))
            obtain rfl := k5.out (hd 5 (by decide))
            obtain rfl := k6.out (hd 6 (by decide))
            obtain rfl := k7.out (hd 7 (by decide))
            obtain rfl := k8.out (hd 8 (by decide))
            obtain rfl := k9.out (hd 9 (by decide))
            obtain rfl := k10.out (hd 10 (by decide))
            obtain rfl := k11.out (hd 11 (by decide))
            obtain rfl := k12.out (hd 12 (by decide))
            obtain rfl := k13.out (hd 13 (by decide))
            obtain rfl := k14.out (hd 14 (by decide))
            obtain rfl := k15.out (hd 15 (by decide))
            obtain rfl := k16.out (hd 16 (by decide))
            obtain rfl := k17.out (hd 17 (by decide))
            obtain rfl := k18.out (hd 18 (by decide))
            have HW := Lib.hid hW
            clear hW hL hd
            refine wpOp_step rfl fun K hK => ?_
            go_simp
            refine hK _ _ ⟨_, _, _, _, _, _, _, _, _, _, _, _, _, _, _, _, _, _, _, _, rfl, k0, k1, k2, k3, k4, k5, k6, k7, k8, k9, k10, k11, k12, k13, k14, k15, k16, k17, k18, (Lib.hid fun _ => rfl), HW.out⟩
        intro L a' u hI hall
        obtain ⟨v4, v59, v60, v61, v62, v63, v64, v65, v66, v67, v68, v69, v70, v71, v72, v73, v74, v75, v76, v77, rfl, k0, k1, k2, k3, k4, k5, k6, k7, k8, k9, k10, k11, k12, k13, k14, k15, k16, k17, k18, k19, hW⟩ := hI
        obtain rfl := k0.out (hall 0 (by decide))
        obtain rfl := k1.out (hall 1 (by decide))
        obtain rfl := k2.out (hall 2 (by decide))
        obtain rfl := k3.out (hall 3 (by decide))
        obtain rfl := k4.out (hall 4 (by decide))
        obtain rfl := k5.out (hall 5 (by decide))
        obtain rfl := k6.out (hall 6 (by decide))
        obtain rfl := k7.out (hall 7 (by decide))
        obtain rfl := k8.out (hall 8 (by decide))
        obtain rfl := k9.out (hall 9 (by decide))
        obtain rfl := k10.out (hall 10 (by decide))
        obtain rfl := k11.out (hall 11 (by decide))
        obtain rfl := k12.out (hall 12 (by decide))
        obtain rfl := k13.out (hall 13 (by decide))
        obtain rfl := k14.out (hall 14 (by decide))
        obtain rfl := k15.out (hall 15 (by decide))
        obtain rfl := k16.out (hall 16 (by decide))
        obtain rfl := k17.out (hall 17 (by decide))
        obtain rfl := k18.out (hall 18 (by decide))
        obtain rfl := k19.out (hall 19 (by decide))
        clear k0 k1 k2 k3 k4 k5 k6 k7 k8 k9 k10 k11 k12 k13 k14 k15 k16 k17 k18 k19 hall
        show wpOps _ _ _ [] _ _
        unfold wpOps
        dsimp only
        have HW := Lib.hid hW
        clear hW hA
        go_wp2
        go_ret
        exact ⟨rfl, HW.out.2⟩
    | false =>
      obtain rfl : tO = false := by simpa using e3'
      cases u' with
      | true =>
        obtain rfl : v = tW := by simpa using e2'.symm
        clear e2' e3'
        go_wp2_with fail
        have hA := HA.out
        clear HA
        refine wp_region_tail [[], [0], [], [], [], [2, 3, 4], [2, 3, 4, 5], [2, 3, 4, 5, 6], [2, 3, 4, 5, 6], [2, 3, 4, 5, 6], [2, 3, 4, 5, 6, 7, 8, 9], [2, 3, 4, 5, 6, 7, 8, 9, 10], [0, 1, 2, 3, 4, 5, 6, 7, 8, 9, 10, 11]] (by kernel_rfl) (by kernel_rfl) 13 rfl (by decide) (by decide) (by kernel_rfl)
          (fun L a' u => ∃ v37 v38 v39 v40 v41 v42 v43 v44 v45 v46 v47 v48 v49 : Value, a' = ⟨#[.slice A1 n1 c1, .slice A2 n2 c2, undef, undef, .bool false, .pointer (some ⟨w2.heap.size, 0, none⟩), .pointer (some ⟨w2.heap.size + 1, 0, none⟩), .pointer (some ⟨w3.heap.size, 0, none⟩), .int .i64 (mx), .int .i64 (my), .slice A1 n1 c1, .agg #[.int .i64 a, .int .i64 b, .int .i64 c, .int .i64 d], .slice A2 n2 c2, .agg #[.int .i64 e, .int .i64 f, .int .i64 g, .int .i64 h], .pointer (some ⟨w2.heap.size, 0, none⟩), .int .i64 (a), .pointer (some ⟨w2.heap.size, 1, none⟩), .int .i64 (b), .agg #[.int .i64 a, .int .i64 b], .agg #[.int .i64 a, .int .i64 b, .int .i64 c, .int .i64 d], .agg #[.int .i64 e, .int .i64 f, .int .i64 g, .int .i64 h], .agg #[.bool true, .bool v, .bool false, .bool false, .bool tS, .int .i64 tx, .int .i64 ty], .pointer (some ⟨w3.heap.size, 0, none⟩), .bool true, .pointer (some ⟨w3.heap.size, 3, none⟩), .bool false, .bool false, .pointer (some ⟨w2.heap.size, 0, none⟩), .int .i64 (a), .pointer (some ⟨w2.heap.size + 1, 0, none⟩), .int .i64 (e), .int .i64 (mx), .pointer (some ⟨w2.heap.size, 1, none⟩), .int .i64 (b), .pointer (some ⟨w2.heap.size + 1, 1, none⟩), .int .i64 (f), .int .i64 (my), v37, v38, v39, v40, v41, v42, v43, v44, v45, v46, v47, v48, v49, undef, undef, undef, undef, undef, undef, undef, undef, undef, undef, undef, undef, undef, undef, undef, undef, undef, undef, undef, undef, undef, undef, undef, undef, undef, undef, undef, undef], []⟩ ∧
            Hid (L 0 = true → v37 = .pointer (some ⟨w3.heap.size, 2, none⟩)) ∧ Hid (L 1 = true → v38 = .bool false) ∧ Hid (L 2 = true → v39 = .agg #[.int .i64 a, .int .i64 b, .int .i64 c, .int .i64 d]) ∧ Hid (L 3 = true → v40 = .int .i64 (mx)) ∧ Hid (L 4 = true → v41 = .int .i64 (my)) ∧ Hid (L 5 = true → v42 = .bool false) ∧ Hid (L 6 = true → v43 = .bool false) ∧ Hid (L 7 = true → v44 = undef) ∧ Hid (L 8 = true → v45 = undef) ∧ Hid (L 9 = true → v46 = undef) ∧ Hid (L 10 = true → v47 = undef) ∧ Hid (L 11 = true → v48 = .bool false) ∧ Hid (L 12 = true → v49 = .bool false) ∧ (Ats [(w2.heap.size, 24, [.int .i64 a, .int .i64 b, .int .i64 c, .int .i64 d]), (w2.heap.size + 1, 24, [.int .i64 e, .int .i64 f, .int .i64 g, .int .i64 h]), (w3.heap.size, 29, [.bool true, .bool v, .bool false, .bool false, .bool tS, .int .i64 tx, .int .i64 ty])] w u)) ?_ ?_ ?_
        · refine ⟨_, _, _, _, _, _, _, _, _, _, _, _, _, rfl, (Lib.hid fun h => by cases h), (Lib.hid fun h => by cases h), (Lib.hid fun h => by cases h), (Lib.hid fun h => by cases h), (Lib.hid fun h => by cases h), (Lib.hid fun h => by cases h), (Lib.hid fun h => by cases h), (Lib.hid fun h => by cases h), (Lib.hid fun h => by cases h), (Lib.hid fun h => by cases h), (Lib.hid fun h => by cases h), (Lib.hid fun h => by cases h), (Lib.hid fun h => by cases h), ?_⟩
          exact hA.drew
        · intro L a' u i hi hI hL hd
          obtain ⟨v37, v38, v39, v40, v41, v42, v43, v44, v45, v46, v47, v48, v49, rfl, k0, k1, k2, k3, k4, k5, k6, k7, k8, k9, k10, k11, k12, hW⟩ := hI
          obtain rfl | rfl | rfl | rfl | rfl | rfl | rfl | rfl | rfl | rfl | rfl | rfl | rfl : i = 0 ∨ i = 1 ∨ i = 2 ∨ i = 3 ∨ i = 4 ∨ i = 5 ∨ i = 6 ∨ i = 7 ∨ i = 8 ∨ i = 9 ∨ i = 10 ∨ i = 11 ∨ i = 12 := by omega
          · -- operation 0
            have HW := Lib.hid hW
            clear hW hL hd
            refine wpOp_step rfl fun K hK => ?_
            go_simp
            refine hK _ _ ⟨_, _, _, _, _, _, _, _, _, _, _, _, _, rfl, (Lib.hid fun _ => rfl), k1, k2, k3, k4, k5, k6, k7, k8, k9, k10, k11, k12, HW.out⟩
          · -- operation 1
            obtain rfl := k0.out (hd 0 (by decide))
            obtain ⟨c0, c1, c2, c3, c4, c5, c6⟩ := (hW.nth 2 rfl).seven.1
            have HW := Lib.hid hW
            clear hW hL hd
            refine wpOp_step rfl fun K hK => ?_
            go_simp
            refine hK _ _ ⟨_, _, _, _, _, _, _, _, _, _, _, _, _, rfl, k0, (Lib.hid fun _ => rfl), k2, k3, k4, k5, k6, k7, k8, k9, k10, k11, k12, HW.out⟩
          · -- operation 2
            obtain ⟨c0, c1, c2, c3⟩ := (hW.nth 0 rfl).four.1
            have HW := Lib.hid hW
            clear hW hL hd
            refine wpOp_step rfl fun K hK => ?_
            go_simp
            refine hK _ _ ⟨_, _, _, _, _, _, _, _, _, _, _, _, _, rfl, k0, k1, (Lib.hid fun _ => rfl), k3, k4, k5, k6, k7, k8, k9, k10, k11, k12, HW.out⟩
          · -- operation 3
            have HW := Lib.hid hW
            clear hW hL hd
            refine wpOp_step rfl fun K hK => ?_
            go_simp
            refine hK _ _ ⟨_, _, _, _, _, _, _, _, _, _, _, _, _, rfl, k0, k1, k2, (Lib.hid fun _ => rfl), k4, k5, k6, k7, k8, k9, k10, k11, k12, HW.out⟩
          · -- operation 4
            have HW := Lib.hid hW
            clear hW hL hd
            refine wpOp_step rfl fun K hK => ?_
            go_simp
            refine hK _ _ ⟨_, _, _, _, _, _, _, _, _, _, _, _, _, rfl, k0, k1, k2, k3, (Lib.hid fun _ => rfl), k5, k6, k7, k8, k9, k10, k11, k12, HW.out⟩
          · -- operation 5
            obtain rfl := k2.out (hd 2 (by decide))
            obtain rfl := k3.out (hd 3 (by decide))
            obtain rfl := k4.out (hd 4 (by decide))
            have HW := Lib.hid hW
            clear hW hL hd
            refine wpOp_step rfl fun K hK => ?_
            go_simp
            go_at_call 17
            refine (has_eq _ _ _ _ _ _ _ _ hp.out).mono ?_
            rintro _ w' ⟨rfl, hb⟩
            refine hK _ _ ⟨_, _, _, _, _, _, _, _, _, _, _, _, _, rfl, k0, k1, k2, k3, k4, (Lib.hid fun _ => rfl), k6, k7, k8, k9, k10, k11, k12, HW.out.by hb⟩
          · -- operation 6
            obtain rfl := k2.out (hd 2 (by decide))
            obtain rfl := k3.out (hd 3 (by decide))
            obtain rfl := k4.out (hd 4 (by decide))
            obtain rfl := k5.out (hd 5 (by decide))
            have HW := Lib.hid hW
            clear hW hL hd
            refine wpOp_step rfl fun K hK => ?_
            go_simp
            refine hK _ _ ⟨_, _, _, _, _, _, _, _, _, _, _, _, _, rfl, k0, k1, k2, k3, k4, k5, (Lib.hid fun _ => rfl), k7, k8, k9, k10, k11, k12, HW.out⟩
          · -- operation 7
            obtain rfl := k2.out (hd 2 (by decide))
            obtain rfl := k3.out (hd 3 (by decide))
            obtain rfl := k4.out (hd 4 (by decide))
            obtain rfl := k5.out (hd 5 (by decide))
            obtain rfl := k6.out (hd 6 (by decide))
            have HW := Lib.hid hW
            clear hW hL hd
            refine wpOp_step rfl fun K hK => ?_
            go_simp
            refine hK _ _ ⟨_, _, _, _, _, _, _, _, _, _, _, _, _, rfl, k0, k1, k2, k3, k4, k5, k6, (Lib.hid fun _ => rfl), k8, k9, k10, k11, k12, HW.out⟩
          · -- operation 8
            obtain rfl := k2.out (hd 2 (by decide))
            obtain rfl := k3.out (hd 3 (by decide))
            obtain rfl := k4.out (hd 4 (by decide))
            obtain rfl := k5.out (hd 5 (by decide))
            obtain rfl := k6.out (hd 6 (by decide))
            have HW := Lib.hid hW
            clear hW hL hd
            refine wpOp_step rfl fun K hK => ?_
            go_simp
            refine hK _ _ ⟨_, _, _, _, _, _, _, _, _, _, _, _, _, rfl, k0, k1, k2, k3, k4, k5, k6, k7, (Lib.hid fun _ => rfl), k9, k10, k11, k12, HW.out⟩
          · -- operation 9
            obtain rfl := k2.out (hd 2 (by decide))
            obtain rfl := k3.out (hd 3 (by decide))
            obtain rfl := k4.out (hd 4 (by decide))
            obtain rfl := k5.out (hd 5 (by decide))
            obtain rfl := k6.out (hd 6 (by decide))
            have HW := Lib.hid hW
            clear hW hL hd
            refine wpOp_step rfl fun K hK => ?_
            go_simp
            refine hK _ _ ⟨_, _, _, _, _, _, _, _, _, _, _, _, _, rfl, k0, k1, k2, k3, k4, k5, k6, k7, k8, (Lib.hid fun _ => rfl), k10, k11, k12, HW.out⟩
          · -- operation 10
            obtain rfl := k2.out (hd 2 (by decide))
            obtain rfl := k3.out (hd 3 (by decide))
            obtain rfl := k4.out (hd 4 (by decide))
            obtain rfl := k5.out (hd 5 (by decide))
            obtain rfl := k6.out (hd 6 (by decide))
            obtain rfl := k7.out (hd 7 (by decide))
            obtain rfl := k8.out (hd 8 (by decide))
            obtain rfl := k9.out (hd 9 (by decide))
            have HW := Lib.hid hW
            clear hW hL hd
            refine wpOp_step rfl fun K hK => ?_
            go_simp
            refine hK _ _ ⟨_, _, _, _, _, _, _, _, _, _, _, _, _, rfl, k0, k1, k2, k3, k4, k5, k6, k7, k8, k9, (Lib.hid fun _ => rfl), k11, k12, HW.out⟩
          · -- operation 11
            obtain rfl := k2.out (hd 2 (by decide))
            obtain rfl := k3.out (hd 3 (by decide))
            obtain rfl := k4.out (hd 4 (by decide))
            obtain rfl := k5.out (hd 5 (by decide))
            obtain rfl := k6.out (hd 6 (by decide))
            obtain rfl := k7.out (hd 7 (by decide))
            obtain rfl := k8.out (hd 8 (by decide))
            obtain rfl := k9.out (hd 9 (by decide))
            obtain rfl := k10.out (hd 10 (by decide))
            have HW := Lib.hid hW
            clear hW hL hd
            refine wpOp_step rfl fun K hK => ?_
            go_simp
            refine hK _ _ ⟨_, _, _, _, _, _, _, _, _, _, _, _, _, rfl, k0, k1, k2, k3, k4, k5, k6, k7, k8, k9, k10, (Lib.hid fun _ => rfl), k12, HW.out⟩
          · -- operation 12
            obtain rfl := k0.out (hd 0 (by decide))
            obtain rfl := k1.out (hd 1 (by decide))
            obtain rfl := k2.out (hd 2 (by decide))
            obtain rfl := k3.out (hd 3 (by decide))
            obtain rfl := k4.out (hd 4 (by decide))
            obtain rfl := k5.out (hd 5 (by decide))
            obtain rfl := k6.out (hd 6 (by decide))
            obtain rfl := k7.out (hd 7 (by decide))
            obtain rfl := k8.out (hd 8 (by decide))
            obtain rfl := k9.out (hd 9 (by decide))
            obtain rfl := k10.out (hd 10 (by decide))
            obtain rfl := k11.out (hd 11 (by decide))
            have HW := Lib.hid hW
            clear hW hL hd
            refine wpOp_step rfl fun K hK => ?_
            go_simp
            refine hK _ _ ⟨_, _, _, _, _, _, _, _, _, _, _, _, _, rfl, k0, k1, k2, k3, k4, k5, k6, k7, k8, k9, k10, k11, (Lib.hid fun _ => rfl), HW.out⟩
        intro L a' u hI hall
        obtain ⟨v37, v38, v39, v40, v41, v42, v43, v44, v45, v46, v47, v48, v49, rfl, k0, k1, k2, k3, k4, k5, k6, k7, k8, k9, k10, k11, k12, hW⟩ := hI
        obtain rfl := k0.out (hall 0 (by decide))
        obtain rfl := k1.out (hall 1 (by decide))
        obtain rfl := k2.out (hall 2 (by decide))
        obtain rfl := k3.out (hall 3 (by decide))
        obtain rfl := k4.out (hall 4 (by decide))
        obtain rfl := k5.out (hall 5 (by decide))
        obtain rfl := k6.out (hall 6 (by decide))
        obtain rfl := k7.out (hall 7 (by decide))
        obtain rfl := k8.out (hall 8 (by decide))
        obtain rfl := k9.out (hall 9 (by decide))
        obtain rfl := k10.out (hall 10 (by decide))
        obtain rfl := k11.out (hall 11 (by decide))
        obtain rfl := k12.out (hall 12 (by decide))
        clear k0 k1 k2 k3 k4 k5 k6 k7 k8 k9 k10 k11 k12 hall
        show wpOps _ _ _ [] _ _
        unfold wpOps
        dsimp only
        have HW := Lib.hid hW
        obtain ⟨c0, c1, c2, c3, c4, c5, c6⟩ := (hW.nth 2 rfl).seven.1
        clear hW hA
        go_wp2_with fail
        clear c0 c1 c2 c3 c4 c5 c6
        have hA := HW.out
        clear HW
        refine wp_region_tail [[], [0], [], [], [3], [], [5], [2, 3, 4, 5, 6], [2, 3, 4, 5, 6, 7], [2, 3, 4, 5, 6, 7, 8], [2, 3, 4, 5, 6, 7, 8], [2, 3, 4, 5, 6, 7, 8, 10], [2, 3, 4, 5, 6, 7, 8, 10, 11], [2, 3, 4, 5, 6, 7, 8], [2, 3, 4, 5, 6, 7, 8, 13], [2, 3, 4, 5, 6, 7, 8, 13, 14], [2, 3, 4, 5, 6, 7, 8, 9, 10, 11, 12, 13, 14, 15], [2, 3, 4, 5, 6, 7, 8, 9, 10, 11, 12, 13, 14, 15, 16], [0, 1, 2, 3, 4, 5, 6, 7, 8, 9, 10, 11, 12, 13, 14, 15, 16, 17], [0, 1, 2, 3, 4, 5, 6, 7, 8, 9, 10, 11, 12, 13, 14, 15, 16, 17, 18]] (by kernel_rfl) (by kernel_rfl) 20 rfl (by decide) (by decide) (by kernel_rfl)
          (fun L a' u => ∃ v4 v59 v60 v61 v62 v63 v64 v65 v66 v67 v68 v69 v70 v71 v72 v73 v74 v75 v76 v77 : Value, a' = ⟨#[.slice A1 n1 c1, .slice A2 n2 c2, undef, undef, v4, .pointer (some ⟨w2.heap.size, 0, none⟩), .pointer (some ⟨w2.heap.size + 1, 0, none⟩), .pointer (some ⟨w3.heap.size, 0, none⟩), .int .i64 (mx), .int .i64 (my), .slice A1 n1 c1, .agg #[.int .i64 a, .int .i64 b, .int .i64 c, .int .i64 d], .slice A2 n2 c2, .agg #[.int .i64 e, .int .i64 f, .int .i64 g, .int .i64 h], .pointer (some ⟨w2.heap.size, 0, none⟩), .int .i64 (a), .pointer (some ⟨w2.heap.size, 1, none⟩), .int .i64 (b), .agg #[.int .i64 a, .int .i64 b], .agg #[.int .i64 a, .int .i64 b, .int .i64 c, .int .i64 d], .agg #[.int .i64 e, .int .i64 f, .int .i64 g, .int .i64 h], .agg #[.bool true, .bool v, .bool false, .bool false, .bool tS, .int .i64 tx, .int .i64 ty], .pointer (some ⟨w3.heap.size, 0, none⟩), .bool true, .pointer (some ⟨w3.heap.size, 3, none⟩), .bool false, .bool false, .pointer (some ⟨w2.heap.size, 0, none⟩), .int .i64 (a), .pointer (some ⟨w2.heap.size + 1, 0, none⟩), .int .i64 (e), .int .i64 (mx), .pointer (some ⟨w2.heap.size, 1, none⟩), .int .i64 (b), .pointer (some ⟨w2.heap.size + 1, 1, none⟩), .int .i64 (f), .int .i64 (my), .pointer (some ⟨w3.heap.size, 2, none⟩), .bool false, .agg #[.int .i64 a, .int .i64 b, .int .i64 c, .int .i64 d], .int .i64 (mx), .int .i64 (my), .bool false, .bool false, undef, undef, undef, undef, .bool false, .bool false, .pointer (some ⟨w3.heap.size, 3, none⟩), .bool false, undef, undef, undef, undef, undef, undef, undef, v59, v60, v61, v62, v63, v64, v65, v66, v67, v68, v69, v70, v71, v72, v73, v74, v75, v76, v77], []⟩ ∧
            Hid (L 0 = true → v59 = .pointer (some ⟨w3.heap.size, 1, none⟩)) ∧ Hid (L 1 = true → v60 = .bool v) ∧ Hid (L 2 = true → v61 = .agg #[.int .i64 e, .int .i64 f, .int .i64 g, .int .i64 h]) ∧ Hid (L 3 = true → v62 = .pointer (some ⟨w2.heap.size, 0, none⟩)) ∧ Hid (L 4 = true → v63 = .int .i64 (a)) ∧ Hid (L 5 = true → v64 = .pointer (some ⟨w2.heap.size, 1, none⟩)) ∧ Hid (L 6 = true → v65 = .int .i64 (b)) ∧ Hid (L 7 = true → v66 = .bool true) ∧ Hid (L 8 = true → v67 = .bool true) ∧ Hid (L 9 = true → v68 = .agg #[.int .i64 e, .int .i64 f, .int .i64 g, .int .i64 h]) ∧ Hid (L 10 = true → v69 = .pointer (some ⟨w2.heap.size, 2, none⟩)) ∧ Hid (L 11 = true → v70 = .int .i64 (c)) ∧ Hid (L 12 = true → v71 = .int .i64 (c - 1)) ∧ Hid (L 13 = true → v72 = .pointer (some ⟨w2.heap.size, 3, none⟩)) ∧ Hid (L 14 = true → v73 = .int .i64 (d)) ∧ Hid (L 15 = true → v74 = .int .i64 (d - 1)) ∧ Hid (L 16 = true → v75 = .bool v) ∧ Hid (L 17 = true → v76 = .bool v) ∧ Hid (L 18 = true → v77 = .bool true) ∧ Hid (L 19 = true → v4 = .bool true) ∧ (Ats [(w2.heap.size, 24, [.int .i64 a, .int .i64 b, .int .i64 c, .int .i64 d]), (w2.heap.size + 1, 24, [.int .i64 e, .int .i64 f, .int .i64 g, .int .i64 h]), (w3.heap.size, 29, [.bool true, .bool v, .bool false, .bool false, .bool tS, .int .i64 tx, .int .i64 ty])] w u)) ?_ ?_ ?_
        · refine ⟨_, _, _, _, _, _, _, _, _, _, _, _, _, _, _, _, _, _, _, _, rfl, (Lib.hid fun h => by cases h), (Lib.hid fun h => by cases h), (Lib.hid fun h => by cases h), (Lib.hid fun h => by cases h), (Lib.hid fun h => by cases h), (Lib.hid fun h => by cases h), (Lib.hid fun h => by cases h), (Lib.hid fun h => by cases h), (Lib.hid fun h => by cases h), (Lib.hid fun h => by cases h), (Lib.hid fun h => by cases h), (Lib.hid fun h => by cases h), (Lib.hid fun h => by cases h), (Lib.hid fun h => by cases h), (Lib.hid fun h => by cases h), (Lib.hid fun h => by cases h), (Lib.hid fun h => by cases h), (Lib.hid fun h => by cases h), (Lib.hid fun h => by cases h), (Lib.hid fun h => by cases h), ?_⟩
          exact hA.drew
        · intro L a' u i hi hI hL hd
          obtain ⟨v4, v59, v60, v61, v62, v63, v64, v65, v66, v67, v68, v69, v70, v71, v72, v73, v74, v75, v76, v77, rfl, k0, k1, k2, k3, k4, k5, k6, k7, k8, k9, k10, k11, k12, k13, k14, k15, k16, k17, k18, k19, hW⟩ := hI
          obtain rfl | rfl | rfl | rfl | rfl | rfl | rfl | rfl | rfl | rfl | rfl | rfl | rfl | rfl | rfl | rfl | rfl | rfl | rfl | rfl : i = 0 ∨ i = 1 ∨ i = 2 ∨ i = 3 ∨ i = 4 ∨ i = 5 ∨ i = 6 ∨ i = 7 ∨ i = 8 ∨ i = 9 ∨ i = 10 ∨ i = 11 ∨ i = 12 ∨ i = 13 ∨ i = 14 ∨ i = 15 ∨ i = 16 ∨ i = 17 ∨ i = 18 ∨ i = 19 := by omega
          · -- operation 0
            have HW := Lib.hid hW
            clear hW hL hd
            refine wpOp_step rfl fun K hK => ?_
            go_simp
            refine hK _ _ ⟨_, _, _, _, _, _, _, _, _, _, _, _, _, _, _, _, _, _, _, _, rfl, (Lib.hid fun _ => rfl), k1, k2, k3, k4, k5, k6, k7, k8, k9, k10, k11, k12, k13, k14, k15, k16, k17, k18, k19, HW.out⟩
          · -- operation 1
            obtain rfl := k0.out (hd 0 (by decide))
            obtain ⟨c0, c1, c2, c3, c4, c5, c6⟩ := (hW.nth 2 rfl).seven.1
            have HW := Lib.hid hW
            clear hW hL hd
            refine wpOp_step rfl fun K hK => ?_
            go_simp
            refine hK _ _ ⟨_, _, _, _, _, _, _, _, _, _, _, _, _, _, _, _, _, _, _, _, rfl, k0, (Lib.hid fun _ => rfl), k2, k3, k4, k5, k6, k7, k8, k9, k10, k11, k12, k13, k14, k15, k16, k17, k18, k19, HW.out⟩
          · -- operation 2
            obtain ⟨c0, c1, c2, c3⟩ := (hW.nth 1 rfl).four.1
            have HW := Lib.hid hW
            clear hW hL hd
            refine wpOp_step rfl fun K hK => ?_
            go_simp
            refine hK _ _ ⟨_, _, _, _, _, _, _, _, _, _, _, _, _, _, _, _, _, _, _, _, rfl, k0, k1, (Lib.hid fun _ => rfl), k3, k4, k5, k6, k7, k8, k9, k10, k11, k12, k13, k14, k15, k16, k17, k18, k19, HW.out⟩
          · -- operation 3
            have HW := Lib.hid hW
            clear hW hL hd
            refine wpOp_step rfl fun K hK => ?_
            go_simp
            refine hK _ _ ⟨_, _, _, _, _, _, _, _, _, _, _, _, _, _, _, _, _, _, _, _, rfl, k0, k1, k2, (Lib.hid fun _ => rfl), k4, k5, k6, k7, k8, k9, k10, k11, k12, k13, k14, k15, k16, k17, k18, k19, HW.out⟩
          · -- operation 4
            obtain rfl := k3.out (hd 3 (by decide))
            obtain ⟨c0, c1, c2, c3⟩ := (hW.nth 0 rfl).four.1
            have HW := Lib.hid hW
            clear hW hL hd
            refine wpOp_step rfl fun K hK => ?_
            go_simp
            refine hK _ _ ⟨_, _, _, _, _, _, _, _, _, _, _, _, _, _, _, _, _, _, _, _, rfl, k0, k1, k2, k3, (Lib.hid fun _ => rfl), k5, k6, k7, k8, k9, k10, k11, k12, k13, k14, k15, k16, k17, k18, k19, HW.out⟩
          · -- operation 5
            have HW := Lib.hid hW
            clear hW hL hd
            refine wpOp_step rfl fun K hK => ?_
            go_simp
            refine hK _ _ ⟨_, _, _, _, _, _, _, _, _, _, _, _, _, _, _, _, _, _, _, _, rfl, k0, k1, k2, k3, k4, (Lib.hid fun _ => rfl), k6, k7, k8, k9, k10, k11, k12, k13, k14, k15, k16, k17, k18, k19, HW.out⟩
          · -- operation 6
            obtain rfl := k5.out (hd 5 (by decide))
            obtain ⟨c0, c1, c2, c3⟩ := (hW.nth 0 rfl).four.1
            have HW := Lib.hid hW
            clear hW hL hd
            refine wpOp_step rfl fun K hK => ?_
            go_simp
            refine hK _ _ ⟨_, _, _, _, _, _, _, _, _, _, _, _, _, _, _, _, _, _, _, _, rfl, k0, k1, k2, k3, k4, k5, (Lib.hid fun _ => rfl), k7, k8, k9, k10, k11, k12, k13, k14, k15, k16, k17, k18, k19, HW.out⟩
          · -- operation 7
            obtain rfl := k2.out (hd 2 (by decide))
            obtain rfl := k3.out (hd 3 (by decide))
            obtain rfl := k4.out (hd 4 (by decide))
            obtain rfl := k5.out (hd 5 (by decide))
            obtain rfl := k6.out (hd 6 (by decide))
            have HW := Lib.hid hW
            clear hW hL hd
            refine wpOp_step rfl fun K hK => ?_
            go_simp
            go_at_call 17
            refine (has_eq _ _ _ _ _ _ _ _ hu.out).mono ?_
            rintro _ w' ⟨rfl, hb⟩
            refine hK _ _ ⟨_, _, _, _, _, _, _, _, _, _, _, _, _, _, _, _, _, _, _, _, rfl, k0, k1, k2, k3, k4, k5, k6, (Lib.hid fun _ => rfl), k8, k9, k10, k11, k12, k13, k14, k15, k16, k17, k18, k19, HW.out.by hb⟩
          · -- operation 8
            obtain rfl := k2.out (hd 2 (by decide))
            obtain rfl := k3.out (hd 3 (by decide))
            obtain rfl := k4.out (hd 4 (by decide))
            obtain rfl := k5.out (hd 5 (by decide))
            obtain rfl := k6.out (hd 6 (by decide))
            obtain rfl := k7.out (hd 7 (by decide))
            have HW := Lib.hid hW
            clear hW hL hd
            refine wpOp_step rfl fun K hK => ?_
            go_simp
            refine hK _ _ ⟨_, _, _, _, _, _, _, _, _, _, _, _, _, _, _, _, _, _, _, _, rfl, k0, k1, k2, k3, k4, k5, k6, k7, (Lib.hid fun _ => rfl), k9, k10, k11, k12, k13, k14, k15, k16, k17, k18, k19, HW.out⟩
          · -- operation 9
            obtain rfl := k2.out (hd 2 (by decide))
            obtain rfl := k3.out (hd 3 (by decide))
            obtain rfl := k4.out (hd 4 (by decide))
            obtain rfl := k5.out (hd 5 (by decide))
            obtain rfl := k6.out (hd 6 (by decide))
            obtain rfl := k7.out (hd 7 (by decide))
            obtain rfl := k8.out (hd 8 (by decide))
            obtain ⟨c0, c1, c2, c3⟩ := (hW.nth 1 rfl).four.1
            have HW := Lib.hid hW
            clear hW hL hd
            refine wpOp_step rfl fun K hK => ?_
            go_simp
            refine hK _ _ ⟨_, _, _, _, _, _, _, _, _, _, _, _, _, _, _, _, _, _, _, _, rfl, k0, k1, k2, k3, k4, k5, k6, k7, k8, (Lib.hid fun _ => rfl), k10, k11, k12, k13, k14, k15, k16, k17, k18, k19, HW.out⟩
          · -- operation 10
            obtain rfl := k2.out (hd 2 (by decide))
            obtain rfl := k3.out (hd 3 (by decide))
            obtain rfl := k4.out (hd 4 (by decide))
            obtain rfl := k5.out (hd 5 (by decide))
            obtain rfl := k6.out (hd 6 (by decide))
            obtain rfl := k7.out (hd 7 (by decide))
            obtain rfl := k8.out (hd 8 (by decide))
            have HW := Lib.hid hW
            clear hW hL hd
            refine wpOp_step rfl fun K hK => ?_
            go_simp
            refine hK _ _ ⟨_, _, _, _, _, _, _, _, _, _, _, _, _, _, _, _, _, _, _, _, rfl, k0, k1, k2, k3, k4, k5, k6, k7, k8, k9, (Lib.hid fun _ => rfl), k11, k12, k13, k14, k15, k16, k17, k18, k19, HW.out⟩
          · -- operation 11
            obtain rfl := k2.out (hd 2 (by decide))
            obtain rfl := k3.out (hd 3 (by decide))
            obtain rfl := k4.out (hd 4 (by decide))
            obtain rfl := k5.out (hd 5 (by decide))
            obtain rfl := k6.out (hd 6 (by decide))
            obtain rfl := k7.out (hd 7 (by decide))
            obtain rfl := k8.out (hd 8 (by decide))
            obtain rfl := k10.out (hd 10 (by decide))
            obtain ⟨c0, c1, c2, c3⟩ := (hW.nth 0 rfl).four.1
            have HW := Lib.hid hW
            clear hW hL hd
            refine wpOp_step rfl fun K hK => ?_
            go_simp
            refine hK _ _ ⟨_, _, _, _, _, _, _, _, _, _, _, _, _, _, _, _, _, _, _, _, rfl, k0, k1, k2, k3, k4, k5, k6, k7, k8, k9, k10, (Lib.hid fun _ => rfl), k12, k13, k14, k15, k16, k17, k18, k19, HW.out⟩
          · -- operation 12
            obtain rfl := k2.out (hd 2 (by decide))
            obtain rfl := k3.out (hd 3 (by decide))
            obtain rfl := k4.out (hd 4 (by decide))
            obtain rfl := k5.out (hd 5 (by decide))
            obtain rfl := k6.out (hd 6 (by decide))
            obtain rfl := k7.out (hd 7 (by decide))
            obtain rfl := k8.out (hd 8 (by decide))
            obtain rfl := k10.out (hd 10 (by decide))
            obtain rfl := k11.out (hd 11 (by decide))
            have HW := Lib.hid hW
            clear hW hL hd
            refine wpOp_step rfl fun K hK => ?_
            go_simp
            refine hK _ _ ⟨_, _, _, _, _, _, _, _, _, _, _, _, _, _, _, _, _, _, _, _, rfl, k0, k1, k2, k3, k4, k5, k6, k7, k8, k9, k10, k11, (Lib.hid fun _ => rfl), k13, k14, k15, k16, k17, k18, k19, HW.out⟩
          · -- operation 13
            obtain rfl := k2.out (hd 2 (by decide))
            obtain rfl := k3.out (hd 3 (by decide))
            obtain rfl := k4.out (hd 4 (by decide))
            obtain rfl := k5.out (hd 5 (by decide))
            obtain rfl := k6.out (hd 6 (by decide))
            obtain rfl := k7.out (hd 7 (by decide))
            obtain rfl := k8.out (hd 8 (by decide))
            have HW := Lib.hid hW
            clear hW hL hd
            refine wpOp_step rfl fun K hK => ?_
            go_simp
            refine hK _ _ ⟨_, _, _, _, _, _, _, _, _, _, _, _, _, _, _, _, _, _, _, _, rfl, k0, k1, k2, k3, k4, k5, k6, k7, k8, k9, k10, k11, k12, (Lib.hid fun _ => rfl), k14, k15, k16, k17, k18, k19, HW.out⟩
          · -- operation 14
            obtain rfl := k2.out (hd 2 (by decide))
            obtain rfl := k3.out (hd 3 (by decide))
            obtain rfl := k4.out (hd 4 (by decide))
            obtain rfl := k5.out (hd 5 (by decide))
            obtain rfl := k6.out (hd 6 (by decide))
            obtain rfl := k7.out (hd 7 (by decide))
            obtain rfl := k8.out (hd 8 (by decide))
            obtain rfl := k13.out (hd 13 (by decide))
            obtain ⟨c0, c1, c2, c3⟩ := (hW.nth 0 rfl).four.1
            have HW := Lib.hid hW
            clear hW hL hd
            refine wpOp_step rfl fun K hK => ?_
            go_simp
            refine hK _ _ ⟨_, _, _, _, _, _, _, _, _, _, _, _, _, _, _, _, _, _, _, _, rfl, k0, k1, k2, k3, k4, k5, k6, k7, k8, k9, k10, k11, k12, k13, (Lib.hid fun _ => rfl), k15, k16, k17, k18, k19, HW.out⟩
          · -- operation 15
            obtain rfl := k2.out (hd 2 (by decide))
            obtain rfl := k3.out (hd 3 (by decide))
            obtain rfl := k4.out (hd 4 (by decide))
            obtain rfl := k5.out (hd 5 (by decide))
            obtain rfl := k6.out (hd 6 (by decide))
            obtain rfl := k7.out (hd 7 (by decide))
            obtain rfl := k8.out (hd 8 (by decide))
            obtain rfl := k13.out (hd 13 (by decide))
            obtain rfl := k14.out (hd 14 (by decide))
            have HW := Lib.hid hW
            clear hW hL hd
            refine wpOp_step rfl fun K hK => ?_
            go_simp
            refine hK _ _ ⟨_, _, _, _, _, _, _, _, _, _, _, _, _, _, _, _, _, _, _, _, rfl, k0, k1, k2, k3, k4, k5, k6, k7, k8, k9, k10, k11, k12, k13, k14, (Lib.hid fun _ => rfl), k16, k17, k18, k19, HW.out⟩
          · -- operation 16
            obtain rfl := k2.out (hd 2 (by decide))
            obtain rfl := k3.out (hd 3 (by decide))
            obtain rfl := k4.out (hd 4 (by decide))
            obtain rfl := k5.out (hd 5 (by decide))
            obtain rfl := k6.out (hd 6 (by decide))
            obtain rfl := k7.out (hd 7 (by decide))
            obtain rfl := k8.out (hd 8 (by decide))
            obtain rfl := k9.out (hd 9 (by decide))
            obtain rfl := k10.out (hd 10 (by decide))
            obtain rfl := k11.out (hd 11 (by decide))
            obtain rfl := k12.out (hd 12 (by decide))
            obtain rfl := k13.out (hd 13 (by decide))
            obtain rfl := k14.out (hd 14 (by decide))
            obtain rfl := k15.out (hd 15 (by decide))
            have HW := Lib.hid hW
            clear hW hL hd
            refine wpOp_step rfl fun K hK => ?_
            go_simp
            go_at_call 17
            refine (has_eq _ _ _ _ _ _ _ _ hv.out).mono ?_
            rintro _ w' ⟨rfl, hb⟩
            refine hK _ _ ⟨_, _, _, _, _, _, _, _, _, _, _, _, _, _, _, _, _, _, _, _, rfl, k0, k1, k2, k3, k4, k5, k6, k7, k8, k9, k10, k11, k12, k13, k14, k15, (Lib.hid fun _ => rfl), k17, k18, k19, HW.out.by hb⟩
          · -- operation 17
            obtain rfl := k2.out (hd 2 (by decide))
            obtain rfl := k3.out (hd 3 (by decide))
            obtain rfl := k4.out (hd 4 (by decide))
            obtain rfl := k5.out (hd 5 (by decide))
            obtain rfl := k6.out (hd 6 (by decide))
            obtain rfl := k7.out (hd 7 (by decide))
            obtain rfl := k8.out (hd 8 (by decide))
            obtain rfl := k9.out (hd 9 (by decide))
            obtain rfl := k10.out (hd 10 (by decide))
            obtain rfl := k11.out (hd 11 (by decide))
            obtain rfl := k12.out (hd 12 (by decide))
            obtain rfl := k13.out (hd 13 (by decide))
            obtain rfl := k14.out (hd 14 (by decide))
            obtain rfl := k15.out (hd 15 (by decide))
            obtain rfl := k16.out (hd 16 (by decide))
            have HW := Lib.hid hW
            clear hW hL hd
            refine wpOp_step rfl fun K hK => ?_
            go_simp
            refine hK _ _ ⟨_, _, _, _, _, _, _, _, _, _, _, _, _, _, _, _, _, _, _, _, rfl, k0, k1, k2, k3, k4, k5, k6, k7, k8, k9, k10, k11, k12, k13, k14, k15, k16, (Lib.hid fun _ => rfl), k18, k19, HW.out⟩
          · -- operation 18
            obtain rfl := k0.out (hd 0 (by decide))
            obtain rfl := k1.out (hd 1 (by decide))
            obtain rfl := k2.out (hd 2 (by decide))
            obtain rfl := k3.out (hd 3 (by decide))
            obtain rfl := k4.out (hd 4 (by decide))
            obtain rfl := k5.out (hd 5 (by decide))
            obtain rfl := k6.out (hd 6 (by decide))
            obtain rfl := k7.out (hd 7 (by decide))
            obtain rfl := k8.out (hd 8 (by decide))
            obtain rfl := k9.out (hd 9 (by decide))
            obtain rfl := k10.out (hd 10 (by decide))
            obtain rfl := k11.out (hd 11 (by decide))
            obtain rfl := k12.out (hd 12 (by decide))
            obtain rfl := k13.out (hd 13 (by decide))
            obtain rfl := k14.out (hd 14 (by decide))
            obtain rfl := k15.out (hd 15 (by decide))
            obtain rfl := k16.out (hd 16 (by decide))
            obtain rfl := k17.out (hd 17 (by decide))
            have HW := Lib.hid hW
            clear hW hL hd
            refine wpOp_step rfl fun K hK => ?_
            go_simp
            refine hK _ _ ⟨_, _, _, _, _, _, _, _, _, _, _, _, _, _, _, _, _, _, _, _, rfl, k0, k1, k2, k3, k4, k5, k6, k7, k8, k9, k10, k11, k12, k13, k14, k15, k16, k17, (Lib.hid fun _ => rfl), k19, HW.out⟩
          · -- operation 19
            obtain rfl := k0.out (hd 0 (by decide))
            obtain rfl := k1.out (hd 1 (by decide))
            obtain rfl := k2.out (hd 2 (by decide))
            obtain rfl := k3.out (hd 3 (by decide))
            obtain rfl := k4.out (hd 4 (by decide))
            obtain rfl := k5.out (hd 5 (by decide))
            obtain rfl := k6.out (hd 6 (by decide))
            obtain rfl := k7.out (hd 7 (by decide))
            obtain rfl := k8.out (hd 8 (by decide))
            obtain rfl := k9.out (hd 9 (by decide))
            obtain rfl := k10.out (hd 10 (by decide))
            obtain rfl := k11.out (hd 11 (by decide))
            obtain rfl := k12.out (hd 12 (by decide))
            obtain rfl := k13.out (hd 13 (by decide))
            obtain rfl := k14.out (hd 14 (by decide))
            obtain rfl := k15.out (hd 15 (by decide))
            obtain rfl := k16.out (hd 16 (by decide))
            obtain rfl := k17.out (hd 17 (by decide))
            obtain rfl := k18.out (hd 18 (by decide))
            have HW := Lib.hid hW
            clear hW hL hd
            refine wpOp_step rfl fun K hK => ?_
            go_simp
            refine hK _ _ ⟨_, _, _, _, _, _, _, _, _, _, _, _, _, _, _, _, _, _, _, _, rfl, k0, k1, k2, k3, k4, k5, k6, k7, k8, k9, k10, k11, k12, k13, k14, k15, k16, k17, k18, (Lib.hid fun _ => rfl), HW.out⟩
        intro L a' u hI hall
        obtain ⟨v4, v59, v60, v61, v62, v63, v64, v65, v66, v67, v68, v69, v70, v71, v72, v73, v74, v75, v76, v77, rfl, k0, k1, k2, k3, k4, k5, k6, k7, k8, k9, k10, k11, k12, k13, k14, k15, k16, k17, k18, k19, hW⟩ := hI
        obtain rfl := k0.out (hall 0 (by decide))
        obtain rfl := k1.out (hall 1 (by decide))
        obtain rfl := k2.out (hall 2 (by decide))
        obtain rfl := k3.out (hall 3 (by decide))
        obtain rfl := k4.out (hall 4 (by decide))
        obtain rfl := k5.out (hall 5 (by decide))
        obtain rfl := k6.out (hall 6 (by decide))
        obtain rfl := k7.out (hall 7 (by decide))
        obtain rfl := k8.out (hall 8 (by decide))
        obtain rfl := k9.out (hall 9 (by decide))
        obtain rfl := k10.out (hall 10 (by decide))
        obtain rfl := k11.out (hall 11 (by decide))
        obtain rfl := k12.out (hall 12 (by decide))
        obtain rfl := k13.out (hall 13 (by decide))
        obtain rfl := k14.out (hall 14 (by decide))
        obtain rfl := k15.out (hall 15 (by decide))
        obtain rfl := k16.out (hall 16 (by decide))
        obtain rfl := k17.out (hall 17 (by decide))
        obtain rfl := k18.out (hall 18 (by decide))
        obtain rfl := k19.out (hall 19 (by decide))
        clear k0 k1 k2 k3 k4 k5 k6 k7 k8 k9 k10 k11 k12 k13 k14 k15 k16 k17 k18 k19 hall
        show wpOps _ _ _ [] _ _
        unfold wpOps
        dsimp only
        have HW := Lib.hid hW
        clear hW hA
        go_wp2
        go_ret
        exact ⟨rfl, HW.out.2⟩
      | false =>
        obtain rfl : tW = false := by simpa using e2'
        clear e2' e3'
        go_wp2_with fail
        have hA := HA.out
        clear HA
        refine wp_region_tail [[], [0], [], [], [], [2, 3, 4], [2, 3, 4, 5], [2, 3, 4, 5, 6], [2, 3, 4, 5, 6], [2, 3, 4, 5, 6], [2, 3, 4, 5, 6, 7, 8, 9], [2, 3, 4, 5, 6, 7, 8, 9, 10], [0, 1, 2, 3, 4, 5, 6, 7, 8, 9, 10, 11]] (by kernel_rfl) (by kernel_rfl) 13 rfl (by decide) (by decide) (by kernel_rfl)
          (fun L a' u => ∃ v37 v38 v39 v40 v41 v42 v43 v44 v45 v46 v47 v48 v49 : Value, a' = ⟨#[.slice A1 n1 c1, .slice A2 n2 c2, undef, undef, .bool false, .pointer (some ⟨w2.heap.size, 0, none⟩), .pointer (some ⟨w2.heap.size + 1, 0, none⟩), .pointer (some ⟨w3.heap.size, 0, none⟩), .int .i64 (mx), .int .i64 (my), .slice A1 n1 c1, .agg #[.int .i64 a, .int .i64 b, .int .i64 c, .int .i64 d], .slice A2 n2 c2, .agg #[.int .i64 e, .int .i64 f, .int .i64 g, .int .i64 h], .pointer (some ⟨w2.heap.size, 0, none⟩), .int .i64 (a), .pointer (some ⟨w2.heap.size, 1, none⟩), .int .i64 (b), .agg #[.int .i64 a, .int .i64 b], .agg #[.int .i64 a, .int .i64 b, .int .i64 c, .int .i64 d], .agg #[.int .i64 e, .int .i64 f, .int .i64 g, .int .i64 h], .agg #[.bool true, .bool false, .bool false, .bool false, .bool tS, .int .i64 tx, .int .i64 ty], .pointer (some ⟨w3.heap.size, 0, none⟩), .bool true, .pointer (some ⟨w3.heap.size, 3, none⟩), .bool false, .bool false, .pointer (some ⟨w2.heap.size, 0, none⟩), .int .i64 (a), .pointer (some ⟨w2.heap.size + 1, 0, none⟩), .int .i64 (e), .int .i64 (mx), .pointer (some ⟨w2.heap.size, 1, none⟩), .int .i64 (b), .pointer (some ⟨w2.heap.size + 1, 1, none⟩), .int .i64 (f), .int .i64 (my), v37, v38, v39, v40, v41, v42, v43, v44, v45, v46, v47, v48, v49, undef, undef, undef, undef, undef, undef, undef, undef, undef, undef, undef, undef, undef, undef, undef, undef, undef, undef, undef, undef, undef, undef, undef, undef, undef, undef, undef, undef], []⟩ ∧
            Hid (L 0 = true → v37 = .pointer (some ⟨w3.heap.size, 2, none⟩)) ∧ Hid (L 1 = true → v38 = .bool false) ∧ Hid (L 2 = true → v39 = .agg #[.int .i64 a, .int .i64 b, .int .i64 c, .int .i64 d]) ∧ Hid (L 3 = true → v40 = .int .i64 (mx)) ∧ Hid (L 4 = true → v41 = .int .i64 (my)) ∧ Hid (L 5 = true → v42 = .bool false) ∧ Hid (L 6 = true → v43 = .bool false) ∧ Hid (L 7 = true → v44 = undef) ∧ Hid (L 8 = true → v45 = undef) ∧ Hid (L 9 = true → v46 = undef) ∧ Hid (L 10 = true → v47 = undef) ∧ Hid (L 11 = true → v48 = .bool false) ∧ Hid (L 12 = true → v49 = .bool false) ∧ (Ats [(w2.heap.size, 24, [.int .i64 a, .int .i64 b, .int .i64 c, .int .i64 d]), (w2.heap.size + 1, 24, [.int .i64 e, .int .i64 f, .int .i64 g, .int .i64 h]), (w3.heap.size, 29, [.bool true, .bool false, .bool false, .bool false, .bool tS, .int .i64 tx, .int .i64 ty])] w u)) ?_ ?_ ?_
        · refine ⟨_, _, _, _, _, _, _, _, _, _, _, _, _, rfl, (Lib.hid fun h => by cases h), (Lib.hid fun h => by cases h), (Lib.hid fun h => by cases h), (Lib.hid fun h => by cases h), (Lib.hid fun h => by cases h), (Lib.hid fun h => by cases h), (Lib.hid fun h => by cases h), (Lib.hid fun h => by cases h), (Lib.hid fun h => by cases h), (Lib.hid fun h => by cases h), (Lib.hid fun h => by cases h), (Lib.hid fun h => by cases h), (Lib.hid fun h => by cases h), ?_⟩
          exact hA.drew
        · intro L a' u i hi hI hL hd
          obtain ⟨v37, v38, v39, v40, v41, v42, v43, v44, v45, v46, v47, v48, v49, rfl, k0, k1, k2, k3, k4, k5, k6, k7, k8, k9, k10, k11, k12, hW⟩ := hI
          obtain rfl | rfl | rfl | rfl | rfl | rfl | rfl | rfl | rfl | rfl | rfl | rfl | rfl : i = 0 ∨ i = 1 ∨ i = 2 ∨ i = 3 ∨ i = 4 ∨ i = 5 ∨ i = 6 ∨ i = 7 ∨ i = 8 ∨ i = 9 ∨ i = 10 ∨ i = 11 ∨ i = 12 := by omega
          · -- operation 0
            have HW := Lib.hid hW
            clear hW hL hd
            refine wpOp_step rfl fun K hK => ?_
            go_simp
            refine hK _ _ ⟨_, _, _, _, _, _, _, _, _, _, _, _, _, rfl, (Lib.hid fun _ => rfl), k1, k2, k3, k4, k5, k6, k7, k8, k9, k10, k11, k12, HW.out⟩
          · -- operation 1
            obtain rfl := k0.out (hd 0 (by decide))
            obtain ⟨c0, c1, c2, c3, c4, c5, c6⟩ := (hW.nth 2 rfl).seven.1
            have HW := Lib.hid hW
            clear hW hL hd
            refine wpOp_step rfl fun K hK => ?_
            go_simp
            refine hK _ _ ⟨_, _, _, _, _, _, _, _, _, _, _, _, _, rfl, k0, (Lib.hid fun _ => rfl), k2, k3, k4, k5, k6, k7, k8, k9, k10, k11, k12, HW.out⟩
          · -- operation 2
            obtain ⟨c0, c1, c2, c3⟩ := (hW.nth 0 rfl).four.1
            have HW := Lib.hid hW
            clear hW hL hd
            refine wpOp_step rfl fun K hK => ?_
            go_simp
            refine hK _ _ ⟨_, _, _, _, _, _, _, _, _, _, _, _, _, rfl, k0, k1, (Lib.hid fun _ => rfl), k3, k4, k5, k6, k7, k8, k9, k10, k11, k12, HW.out⟩
          · -- operation 3
            have HW := Lib.hid hW
            clear hW hL hd
            refine wpOp_step rfl fun K hK => ?_
            go_simp
            refine hK _ _ ⟨_, _, _, _, _, _, _, _, _, _, _, _, _, rfl, k0, k1, k2, (Lib.hid fun _ => rfl), k4, k5, k6, k7, k8, k9, k10, k11, k12, HW.out⟩
          · -- operation 4
            have HW := Lib.hid hW
            clear hW hL hd
            refine wpOp_step rfl fun K hK => ?_
            go_simp
            refine hK _ _ ⟨_, _, _, _, _, _, _, _, _, _, _, _, _, rfl, k0, k1, k2, k3, (Lib.hid fun _ => rfl), k5, k6, k7, k8, k9, k10, k11, k12, HW.out⟩
          · -- operation 5
            obtain rfl := k2.out (hd 2 (by decide))
            obtain rfl := k3.out (hd 3 (by decide))
            obtain rfl := k4.out (hd 4 (by decide))
            have HW := Lib.hid hW
            clear hW hL hd
            refine wpOp_step rfl fun K hK => ?_
            go_simp
            go_at_call 17
            refine (has_eq _ _ _ _ _ _ _ _ hp.out).mono ?_
            rintro _ w' ⟨rfl, hb⟩
            refine hK _ _ ⟨_, _, _, _, _, _, _, _, _, _, _, _, _, rfl, k0, k1, k2, k3, k4, (Lib.hid fun _ => rfl), k6, k7, k8, k9, k10, k11, k12, HW.out.by hb⟩
          · -- operation 6
            obtain rfl := k2.out (hd 2 (by decide))
            obtain rfl := k3.out (hd 3 (by decide))
            obtain rfl := k4.out (hd 4 (by decide))
            obtain rfl := k5.out (hd 5 (by decide))
            have HW := Lib.hid hW
            clear hW hL hd
            refine wpOp_step rfl fun K hK => ?_
            go_simp
            refine hK _ _ ⟨_, _, _, _, _, _, _, _, _, _, _, _, _, rfl, k0, k1, k2, k3, k4, k5, (Lib.hid fun _ => rfl), k7, k8, k9, k10, k11, k12, HW.out⟩
          · -- operation 7
            obtain rfl := k2.out (hd 2 (by decide))
            obtain rfl := k3.out (hd 3 (by decide))
            obtain rfl := k4.out (hd 4 (by decide))
            obtain rfl := k5.out (hd 5 (by decide))
            obtain rfl := k6.out (hd 6 (by decide))
            have HW := Lib.hid hW
            clear hW hL hd
            refine wpOp_step rfl fun K hK => ?_
            go_simp
            refine hK _ _ ⟨_, _, _, _, _, _, _, _, _, _, _, _, _, rfl, k0, k1, k2, k3, k4, k5, k6, (Lib.hid fun _ => rfl), k8, k9, k10, k11, k12, HW.out⟩
          · -- operation 8
            obtain rfl := k2.out (hd 2 (by decide))
            obtain rfl := k3.out (hd 3 (by decide))
            obtain rfl := k4.out (hd 4 (by decide))
            obtain rfl := k5.out (hd 5 (by decide))
            obtain rfl := k6.out (hd 6 (by decide))
            have HW := Lib.hid hW
            clear hW hL hd
            refine wpOp_step rfl fun K hK => ?_
            go_simp
            refine hK _ _ ⟨_, _, _, _, _, _, _, _, _, _, _, _, _, rfl, k0, k1, k2, k3, k4, k5, k6, k7, (Lib.hid fun _ => rfl), k9, k10, k11, k12, HW.out⟩
          · -- operation 9
            obtain rfl := k2.out (hd 2 (by decide))
            obtain rfl := k3.out (hd 3 (by decide))
            obtain rfl := k4.out (hd 4 (by decide))
            obtain rfl := k5.out (hd 5 (by decide))
            obtain rfl := k6.out (hd 6 (by decide))
            have HW := Lib.hid hW
            clear hW hL hd
            refine wpOp_step rfl fun K hK => ?_
            go_simp
            refine hK _ _ ⟨_, _, _, _, _, _, _, _, _, _, _, _, _, rfl, k0, k1, k2, k3, k4, k5, k6, k7, k8, (Lib.hid fun _ => rfl), k10, k11, k12, HW.out⟩
          · -- operation 10
            obtain rfl := k2.out (hd 2 (by decide))
            obtain rfl := k3.out (hd 3 (by decide))
            obtain rfl := k4.out (hd 4 (by decide))
            obtain rfl := k5.out (hd 5 (by decide))
            obtain rfl := k6.out (hd 6 (by decide))
            obtain rfl := k7.out (hd 7 (by decide))
            obtain rfl := k8.out (hd 8 (by decide))
            obtain rfl := k9.out (hd 9 (by decide))
            have HW := Lib.hid hW
            clear hW hL hd
            refine wpOp_step rfl fun K hK => ?_
            go_simp
            refine hK _ _ ⟨_, _, _, _, _, _, _, _, _, _, _, _, _, rfl, k0, k1, k2, k3, k4, k5, k6, k7, k8, k9, (Lib.hid fun _ => rfl), k11, k12, HW.out⟩
          · -- operation 11
            obtain rfl := k2.out (hd 2 (by decide))
            obtain rfl := k3.out (hd 3 (by decide))
            obtain rfl := k4.out (hd 4 (by decide))
            obtain rfl := k5.out (hd 5 (by decide))
            obtain rfl := k6.out (hd 6 (by decide))
            obtain rfl := k7.out (hd 7 (by decide))
            obtain rfl := k8.out (hd 8 (by decide))
            obtain rfl := k9.out (hd 9 (by decide))
            obtain rfl := k10.out (hd 10 (by decide))
            have HW := Lib.hid hW
            clear hW hL hd
            refine wpOp_step rfl fun K hK => ?_
            go_simp
            refine hK _ _ ⟨_, _, _, _, _, _, _, _, _, _, _, _, _, rfl, k0, k1, k2, k3, k4, k5, k6, k7, k8, k9, k10, (Lib.hid fun _ => rfl), k12, HW.out⟩
          · -- operation 12
            obtain rfl := k0.out (hd 0 (by decide))
            obtain rfl := k1.out (hd 1 (by decide))
            obtain rfl := k2.out (hd 2 (by decide))
            obtain rfl := k3.out (hd 3 (by decide))
            obtain rfl := k4.out (hd 4 (by decide))
            obtain rfl := k5.out (hd 5 (by decide))
            obtain rfl := k6.out (hd 6 (by decide))
            obtain rfl := k7.out (hd 7 (by decide))
            obtain rfl := k8.out (hd 8 (by decide))
            obtain rfl := k9.out (hd 9 (by decide))
            obtain rfl := k10.out (hd 10 (by decide))
            obtain rfl := k11.out (hd 11 (by decide))
            have HW := Lib.hid hW
            clear hW hL hd
            refine wpOp_step rfl fun K hK => ?_
            go_simp
            refine hK _ _ ⟨_, _, _, _, _, _, _, _, _, _, _, _, _, rfl, k0, k1, k2, k3, k4, k5, k6, k7, k8, k9, k10, k11, (Lib.hid fun _ => rfl), HW.out⟩
        intro L a' u hI hall
        obtain ⟨v37, v38, v39, v40, v41, v42, v43, v44, v45, v46, v47, v48, v49, rfl, k0, k1, k2, k3, k4, k5, k6, k7, k8, k9, k10, k11, k12, hW⟩ := hI
        obtain rfl := k0.out (hall 0 (by decide))
        obtain rfl := k1.out (hall 1 (by decide))
        obtain rfl := k2.out (hall 2 (by decide))
        obtain rfl := k3.out (hall 3 (by decide))
        obtain rfl := k4.out (hall 4 (by decide))
        obtain rfl := k5.out (hall 5 (by decide))
        obtain rfl := k6.out (hall 6 (by decide))
        obtain rfl := k7.out (hall 7 (by decide))
        obtain rfl := k8.out (hall 8 (by decide))
        obtain rfl := k9.out (hall 9 (by decide))
        obtain rfl := k10.out (hall 10 (by decide))
        obtain rfl := k11.out (hall 11 (by decide))
        obtain rfl := k12.out (hall 12 (by decide))
        clear k0 k1 k2 k3 k4 k5 k6 k7 k8 k9 k10 k11 k12 hall
        show wpOps _ _ _ [] _ _
        unfold wpOps
        dsimp only
        have HW := Lib.hid hW
        obtain ⟨c0, c1, c2, c3, c4, c5, c6⟩ := (hW.nth 2 rfl).seven.1
        clear hW hA
        go_wp2_with fail
        clear c0 c1 c2 c3 c4 c5 c6
        have hA := HW.out
        clear HW
        refine wp_region_tail [[], [0], [], [], [3], [], [5], [2, 3, 4, 5, 6], [2, 3, 4, 5, 6, 7], [2, 3, 4, 5, 6, 7, 8], [2, 3, 4, 5, 6, 7, 8], [2, 3, 4, 5, 6, 7, 8, 10], [2, 3, 4, 5, 6, 7, 8, 10, 11], [2, 3, 4, 5, 6, 7, 8], [2, 3, 4, 5, 6, 7, 8, 13], [2, 3, 4, 5, 6, 7, 8, 13, 14], [2, 3, 4, 5, 6, 7, 8, 9, 10, 11, 12, 13, 14, 15], [2, 3, 4, 5, 6, 7, 8, 9, 10, 11, 12, 13, 14, 15, 16], [0, 1, 2, 3, 4, 5, 6, 7, 8, 9, 10, 11, 12, 13, 14, 15, 16, 17], [0, 1, 2, 3, 4, 5, 6, 7, 8, 9, 10, 11, 12, 13, 14, 15, 16, 17, 18]] (by kernel_rfl) (by kernel_rfl) 20 rfl (by decide) (by decide) (by kernel_rfl)
          (fun L a' u => ∃ v4 v59 v60 v61 v62 v63 v64 v65 v66 v67 v68 v69 v70 v71 v72 v73 v74 v75 v76 v77 : Value, a' = ⟨#[.slice A1 n1 c1, .slice A2 n2 c2, undef, undef, v4, .pointer (some ⟨w2.heap.size, 0, none⟩), .pointer (some ⟨w2.heap.size + 1, 0, none⟩), .pointer (some ⟨w3.heap.size, 0, none⟩), .int .i64 (mx), .int .i64 (my), .slice A1 n1 c1, .agg #[.int .i64 a, .int .i64 b, .int .i64 c, .int .i64 d], .slice A2 n2 c2, .agg #[.int .i64 e, .int .i64 f, .int .i64 g, .int .i64 h], .pointer (some ⟨w2.heap.size, 0, none⟩), .int .i64 (a), .pointer (some ⟨w2.heap.size, 1, none⟩), .int .i64 (b), .agg #[.int .i64 a, .int .i64 b], .agg #[.int .i64 a, .int .i64 b, .int .i64 c, .int .i64 d], .agg #[.int .i64 e, .int .i64 f, .int .i64 g, .int .i64 h], .agg #[.bool true, .bool false, .bool false, .bool false, .bool tS, .int .i64 tx, .int .i64 ty], .pointer (some ⟨w3.heap.size, 0, none⟩), .bool true, .pointer (some ⟨w3.heap.size, 3, none⟩), .bool false, .bool false, .pointer (some ⟨w2.heap.size, 0, none⟩), .int .i64 (a), .pointer (some ⟨w2.heap.size + 1, 0, none⟩), .int .i64 (e), .int .i64 (mx), .pointer (some ⟨w2.heap.size, 1, none⟩), .int .i64 (b), .pointer (some ⟨w2.heap.size + 1, 1, none⟩), .int .i64 (f), .int .i64 (my), .pointer (some ⟨w3.heap.size, 2, none⟩), .bool false, .agg #[.int .i64 a, .int .i64 b, .int .i64 c, .int .i64 d], .int .i64 (mx), .int .i64 (my), .bool false, .bool false, undef, undef, undef, undef, .bool false, .bool false, .pointer (some ⟨w3.heap.size, 3, none⟩), .bool false, undef, undef, undef, undef, undef, undef, undef, v59, v60, v61, v62, v63, v64, v65, v66, v67, v68, v69, v70, v71, v72, v73, v74, v75, v76, v77], []⟩ ∧
            Hid (L 0 = true → v59 = .pointer (some ⟨w3.heap.size, 1, none⟩)) ∧ Hid (L 1 = true → v60 = .bool false) ∧ Hid (L 2 = true → v61 = .agg #[.int .i64 e, .int .i64 f, .int .i64 g, .int .i64 h]) ∧ Hid (L 3 = true → v62 = .pointer (some ⟨w2.heap.size, 0, none⟩)) ∧ Hid (L 4 = true → v63 = .int .i64 (a)) ∧ Hid (L 5 = true → v64 = .pointer (some ⟨w2.heap.size, 1, none⟩)) ∧ Hid (L 6 = true → v65 = .int .i64 (b)) ∧ Hid (L 7 = true → v66 = .bool false) ∧ Hid (L 8 = true → v67 = .bool false) ∧ Hid (L 9 = true → v68 = undef) ∧ Hid (L 10 = true → v69 = undef) ∧ Hid (L 11 = true → v70 = undef) ∧ Hid (L 12 = true → v71 = undef) ∧ Hid (L 13 = true → v72 = undef) ∧ Hid (L 14 = true → v73 = undef) ∧ Hid (L 15 = true → v74 = undef) ∧ Hid (L 16 = true → v75 = undef) ∧ Hid (L 17 = true → v76 = .bool false) ∧ Hid (L 18 = true → v77 = .bool true) ∧ Hid (L 19 = true → v4 = .bool true) ∧ (Ats [(w2.heap.size, 24, [.int .i64 a, .int .i64 b, .int .i64 c, .int .i64 d]), (w2.heap.size + 1, 24, [.int .i64 e, .int .i64 f, .int .i64 g, .int .i64 h]), (w3.heap.size, 29, [.bool true, .bool false, .bool false, .bool false, .bool tS, .int .i64 tx, .int .i64 ty])] w u)) ?_ ?_ ?_
        · refine ⟨_, _, _, _, _, _, _, _, _, _, _, _, _, _, _, _, _, _, _, _, rfl, (Lib.hid fun h => by cases h), (Lib.hid fun h => by cases h), (Lib.hid fun h => by cases h), (Lib.hid fun h => by cases h), (Lib.hid fun h => by cases h), (Lib.hid fun h => by cases h), (Lib.hid fun h => by cases h), (Lib.hid fun h => by cases h), (Lib.hid fun h => by cases h), (Lib.hid fun h => by cases h), (Lib.hid fun h => by cases h), (Lib.hid fun h => by cases h), (Lib.hid fun h => by cases h), (Lib.hid fun h => by cases h), (Lib.hid fun h => by cases h), (Lib.hid fun h => by cases h), (Lib.hid fun h => by cases h), (Lib.hid fun h => by cases h), (Lib.hid fun h => by cases h), (Lib.hid fun h => by cases h), ?_⟩
          exact hA.drew
        · intro L a' u i hi hI hL hd
          obtain ⟨v4, v59, v60, v61, v62, v63, v64, v65, v66, v67, v68, v69, v70, v71, v72, v73, v74, v75, v76, v77, rfl, k0, k1, k2, k3, k4, k5, k6, k7, k8, k9, k10, k11, k12, k13, k14, k15, k16, k17, k18, k19, hW⟩ := hI
          obtain rfl | rfl | rfl | rfl | rfl | rfl | rfl | rfl | rfl | rfl | rfl | rfl | rfl | rfl | rfl | rfl | rfl | rfl | rfl | rfl : i = 0 ∨ i = 1 ∨ i = 2 ∨ i = 3 ∨ i = 4 ∨ i = 5 ∨ i = 6 ∨ i = 7 ∨ i = 8 ∨ i = 9 ∨ i = 10 ∨ i = 11 ∨ i = 12 ∨ i = 13 ∨ i = 14 ∨ i = 15 ∨ i = 16 ∨ i = 17 ∨ i = 18 ∨ i = 19 := by omega
          · -- operation 0
            have HW := Lib.hid hW
            clear hW hL hd
            refine wpOp_step rfl fun K hK => ?_
            go_simp
            refine hK _ _ ⟨_, _, _, _, _, _, _, _, _, _, _, _, _, _, _, _, _, _, _, _, rfl, (Lib.hid fun _ => rfl), k1, k2, k3, k4, k5, k6, k7, k8, k9, k10, k11, k12, k13, k14, k15, k16, k17, k18, k19, HW.out⟩
          · -- operation 1
            obtain rfl := k0.out (hd 0 (by decide))
            obtain ⟨c0, c1, c2, c3, c4, c5, c6⟩ := (hW.nth 2 rfl).seven.1
            have HW := Lib.hid hW
            clear hW hL hd
            refine wpOp_step rfl fun K hK => ?_
            go_simp
            refine hK _ _ ⟨_, _, _, _, _, _, _, _, _, _, _, _, _, _, _, _, _, _, _, _, rfl, k0, (Lib.hid fun _ => rfl), k2, k3, k4, k5, k6, k7, k8, k9, k10, k11, k12, k13, k14, k15, k16, k17, k18, k19, HW.out⟩
          · -- operation 2
            obtain ⟨c0, c1, c2, c3⟩ := (hW.nth 1 rfl).four.1
            have HW := Lib.hid hW
            clear hW hL hd
            refine wpOp_step rfl fun K hK => ?_
            go_simp
            refine hK _ _ ⟨_, _, _, _, _, _, _, _, _, _, _, _, _, _, _, _, _, _, _, _, rfl, k0, k1, (Lib.hid fun _ => rfl), k3, k4, k5, k6, k7, k8, k9, k10, k11, k12, k13, k14, k15, k16, k17, k18, k19, HW.out⟩
          · -- operation 3
            have HW := Lib.hid hW
            clear hW hL hd
            refine wpOp_step rfl fun K hK => ?_
            go_simp
            refine hK _ _ ⟨_, _, _, _, _, _, _, _, _, _, _, _, _, _, _, _, _, _, _, _, rfl, k0, k1, k2, (Lib.hid fun _ => rfl), k4, k5, k6, k7, k8, k9, k10, k11, k12, k13, k14, k15, k16, k17, k18, k19, HW.out⟩
          · -- operation 4
            obtain rfl := k3.out (hd 3 (by decide))
            obtain ⟨c0, c1, c2, c3⟩ := (hW.nth 0 rfl).four.1
            have HW := Lib.hid hW
            clear hW hL hd
            refine wpOp_step rfl fun K hK => ?_
            go_simp
            refine hK _ _ ⟨_, _, _, _, _, _, _, _, _, _, _, _, _, _, _, _, _, _, _, _, rfl, k0, k1, k2, k3, (Lib.hid fun _ => rfl), k5, k6, k7, k8, k9, k10, k11, k12, k13, k14, k15, k16, k17, k18, k19, HW.out⟩
          · -- operation 5
            have HW := Lib.hid hW
            clear hW hL hd
            refine wpOp_step rfl fun K hK => ?_
            go_simp
            refine hK _ _ ⟨_, _, _, _, _, _, _, _, _, _, _, _, _, _, _, _, _, _, _, _, rfl, k0, k1, k2, k3, k4, (Lib.hid fun _ => rfl), k6, k7, k8, k9, k10, k11, k12, k13, k14, k15, k16, k17, k18, k19, HW.out⟩
          · -- operation 6
            obtain rfl := k5.out (hd 5 (by decide))
            obtain ⟨c0, c1, c2, c3⟩ := (hW.nth 0 rfl).four.1
            have HW := Lib.hid hW
            clear hW hL hd
            refine wpOp_step rfl fun K hK => ?_
            go_simp
            refine hK _ _ ⟨_, _, _, _, _, _, _, _, _, _, _, _, _, _, _, _, _, _, _, _, rfl, k0, k1, k2, k3, k4, k5, (Lib.hid fun _ => rfl), k7, k8, k9, k10, k11, k12, k13, k14, k15, k16, k17, k18, k19, HW.out⟩
          · -- operation 7
            obtain rfl := k2.out (hd 2 (by decide))
            obtain rfl := k3.out (hd 3 (by decide))
            obtain rfl := k4.out (hd 4 (by decide))
            obtain rfl := k5.out (hd 5 (by decide))
            obtain rfl := k6.out (hd 6 (by decide))
            have HW := Lib.hid hW
            clear hW hL hd
            refine wpOp_step rfl fun K hK => ?_
            go_simp
            go_at_call 17
            refine (has_eq _ _ _ _ _ _ _ _ hu.out).mono ?_
            rintro _ w' ⟨rfl, hb⟩
            refine hK _ _ ⟨_, _, _, _, _, _, _, _, _, _, _, _, _, _, _, _, _, _, _, _, rfl, k0, k1, k2, k3, k4, k5, k6, (Lib.hid fun _ => rfl), k8, k9, k10, k11, k12, k13, k14, k15, k16, k17, k18, k19, HW.out.by hb⟩
          · -- operation 8
            obtain rfl := k2.out (hd 2 (by decide))
            obtain rfl := k3.out (hd 3 (by decide))
            obtain rfl := k4.out (hd 4 (by decide))
            obtain rfl := k5.out (hd 5 (by decide))
            obtain rfl := k6.out (hd 6 (by decide))
            obtain rfl := k7.out (hd 7 (by decide))
            have HW := Lib.hid hW
            clear hW hL hd
            refine wpOp_step rfl fun K hK => ?_
            go_simp
            refine hK _ _ ⟨_, _, _, _, _, _, _, _, _, _, _, _, _, _, _, _, _, _, _, _, rfl, k0, k1, k2, k3, k4, k5, k6, k7, (Lib.hid fun _ => rfl), k9, k10, k11, k12, k13, k14, k15, k16, k17, k18, k19, HW.out⟩
          · -- operation 9
            obtain rfl := k2.out (hd 2 (by decide))
            obtain rfl := k3.out (hd 3 (by decide))
            obtain rfl := k4.out (hd 4 (by decide))
            obtain rfl := k5.out (hd 5 (by decide))
            obtain rfl := k6.out (hd 6 (by decide))
            obtain rfl := k7.out (hd 7 (by decide))
            obtain rfl := k8.out (hd 8 (by decide))
            have HW := Lib.hid hW
            clear hW hL hd
            refine wpOp_step rfl fun K hK => ?_
            go_simp
            refine hK _ _ ⟨_, _, _, _, _, _, _, _, _, _, _, _, _, _, _, _, _, _, _, _, rfl, k0, k1, k2, k3, k4, k5, k6, k7, k8, (Lib.hid fun _ => rfl), k10, k11, k12, k13, k14, k15, k16, k17, k18, k19, HW.out⟩
          · -- operation 10
            obtain rfl := k2.out (hd 2 (by decide))
            obtain rfl := k3.out (hd 3 (by decide))
            obtain rfl := k4.out (hd 4 (by decide))
            obtain rfl := k5.out (hd 5 (by decide))
            obtain rfl := k6.out (hd 6 (by decide))
            obtain rfl := k7.out (hd 7 (by decide))
            obtain rfl := k8.out (hd 8 (by decide))
            have HW := Lib.hid hW
            clear hW hL hd
            refine wpOp_step rfl fun K hK => ?_
            go_simp
            refine hK _ _ ⟨_, _, _, _, _, _, _, _, _, _, _, _, _, _, _, _, _, _, _, _, rfl, k0, k1, k2, k3, k4, k5, k6, k7, k8, k9, (Lib.hid fun _ => rfl), k11, k12, k13, k14, k15, k16, k17, k18, k19, HW.out⟩
          · -- operation 11
            obtain rfl := k2.out (hd 2 (by decide))
            obtain rfl := k3.out (hd 3 (by decide))
            obtain rfl := k4.out (hd 4 (by decide))
            obtain rfl := k5.out (hd 5 (by decide))
            obtain rfl := k6.out (hd 6 (by decide))
            obtain rfl := k7.out (hd 7 (by decide))
            obtain rfl := k8.out (hd 8 (by decide))
            obtain rfl := k10.out (hd 10 (by decide))
            have HW := Lib.hid hW
            clear hW hL hd
            refine wpOp_step rfl fun K hK => ?_
            go_simp
            refine hK _ _ ⟨_, _, _, _, _, _, _, _, _, _, _, _, _, _, _, _, _, _, _, _, rfl, k0, k1, k2, k3, k4, k5, k6, k7, k8, k9, k10, (Lib.hid fun _ => rfl), k12, k13, k14, k15, k16, k17, k18, k19, HW.out⟩
          · -- operation 12
            obtain rfl := k2.out (hd 2 (by decide))
            obtain rfl := k3.out (hd 3 (by decide))
            obtain rfl := k4.out (hd 4 (by decide))
            obtain rfl := k5.out (hd 5 (by decide))
            obtain rfl := k6.out (hd 6 (by decide))
            obtain rfl := k7.out (hd 7 (by decide))
            obtain rfl := k8.out (hd 8 (by decide))
            obtain rfl := k10.out (hd 10 (by decide))
            obtain rfl := k11.out (hd 11 (by decide))
            have HW := Lib.hid hW
            clear hW hL hd
            refine wpOp_step rfl fun K hK => ?_
            go_simp
            refine hK _ _ ⟨_, _, _, _, _, _, _, _, _, _, _, _, _, _, _, _, _, _, _, _, rfl, k0, k1, k2, k3, k4, k5, k6, k7, k8, k9, k10, k11, (Lib.hid fun _ => rfl), k13, k14, k15, k16, k17, k18, k19, HW.out⟩
          · -- operation 13
            obtain rfl := k2.out (hd 2 (by decide))
            obtain rfl := k3.out (hd 3 (by decide))
            obtain rfl := k4.out (hd 4 (by decide))
            obtain rfl := k5.out (hd 5 (by decide))
            obtain rfl := k6.out (hd 6 (by decide))
            obtain rfl := k7.out (hd 7 (by decide))
            obtain rfl := k8.out (hd 8 (by decide))
            have HW := Lib.hid hW
            clear hW hL hd
            refine wpOp_step rfl fun K hK => ?_
            go_simp
            refine hK _ _ ⟨_, _, _, _, _, _, _, _, _, _, _, _, _, _, _, _, _, _, _, _, rfl, k0, k1, k2, k3, k4, k5, k6, k7, k8, k9, k10, k11, k12, (Lib.hid fun _ => rfl), k14, k15, k16, k17, k18, k19, HW.out⟩
          · -- operation 14
            obtain rfl := k2.out (hd 2 (by decide))
            obtain rfl := k3.out (hd 3 (by decide))
            obtain rfl := k4.out (hd 4 (by decide))
            obtain rfl := k5.out (hd 5 (by decide))
            obtain rfl := k6.out (hd 6 (by decide))
            obtain rfl := k7.out (hd 7 (by decide))
            obtain rfl := k8.out (hd 8 (by decide))
            obtain rfl := k13.out (hd 13 (by decide))
            have HW := Lib.hid hW
            clear hW hL hd
            refine wpOp_step rfl fun K hK => ?_
            go_simp
            refine hK _ _ ⟨_, _, _, _, _, _, _, _, _, _, _, _, _, _, _, _, _, _, _, _, rfl, k0, k1, k2, k3, k4, k5, k6, k7, k8, k9, k10, k11, k12, k13, (Lib.hid fun _ => rfl), k15, k16, k17, k18, k19, HW.out⟩
          · -- operation 15
            obtain rfl := k2.out (hd 2 (by decide))
            obtain rfl := k3.out (hd 3 (by decide))
            obtain rfl := k4.out (hd 4 (by decide))
            obtain rfl := k5.out (hd 5 (by decide))
            obtain rfl := k6.out (hd 6 (by decide))
            obtain rfl := k7.out (hd 7 (by decide))
            obtain rfl := k8.out (hd 8 (by decide))
            obtain rfl := k13.out (hd 13 (by decide))
            obtain rfl := k14.out (hd 14 (by decide))
            have HW := Lib.hid hW
            clear hW hL hd
            refine wpOp_step rfl fun K hK => ?_
            go_simp
            refine hK _ _ ⟨_, _, _, _, _, _, _, _, _, _, _, _, _, _, _, _, _, _, _, _, rfl, k0, k1, k2, k3, k4, k5, k6, k7, k8, k9, k10, k11, k12, k13, k14, (Lib.hid fun _ => rfl), k16, k17, k18, k19, HW.out⟩
          · -- operation 16
            obtain rfl := k2.out (hd 2 (by decide))
            obtain rfl := k3.out (hd 3 (by decide))
            obtain rfl := k4.out (hd 4 (by decide))
            obtain rfl := k5.out (hd 5 (by decide))
            obtain rfl := k6.out (hd 6 (by decide))
            obtain rfl := k7.out (hd 7 (by decide))
            obtain rfl := k8.out (hd 8 (by decide))
            obtain rfl := k9.out (hd 9 (by decide))
            obtain rfl := k10.out (hd 10 (by decide))
            obtain rfl := k11.out (hd 11 (by decide))
            obtain rfl := k12.out (hd 12 (by decide))
            obtain rfl := k13.out (hd 13 (by decide))
            obtain rfl := k14.out (hd 14 (by decide))
            obtain rfl := k15.out (hd 15 (by decide))
            have HW := Lib.hid hW
            clear hW hL hd
            refine wpOp_step rfl fun K hK => ?_
            go_simp
            refine hK _ _ ⟨_, _, _, _, _, _, _, _, _, _, _, _, _, _, _, _, _, _, _, _, rfl, k0, k1, k2, k3, k4, k5, k6, k7, k8, k9, k10, k11, k12, k13, k14, k15, (Lib.hid fun _ => rfl), k17, k18, k19, HW.out⟩
          · -- operation 17
            obtain rfl := k2.out (hd 2 (by decide))
            obtain rfl := k3.out (hd 3 (by decide))
            obtain rfl := k4.out (hd 4 (by decide))
            obtain rfl := k5.out (hd 5 (by decide))
            obtain rfl := k6.out (hd 6 (by decide))
            obtain rfl := k7.out (hd 7 (by decide))
            obtain rfl := k8.out (hd 8 (by decide))
            obtain rfl := k9.out (hd 9 (by decide))
            obtain rfl := k10.out (hd 10 (by decide))
            obtain rfl := k11.out (hd 11 (by decide))
            obtain rfl := k12.out (hd 12 (by decide))
            obtain rfl := k13.out (hd 13 (by decide))
            obtain rfl := k14.out (hd 14 (by decide))
            obtain rfl := k15.out (hd 15 (by decide))
            obtain rfl := k16.out (hd 16 (by decide))
            have HW := Lib.hid hW
            clear hW hL hd
            refine wpOp_step rfl fun K hK => ?_
            go_simp
            refine hK _ _ ⟨_, _, _, _, _, _, _, _, _, _, _, _, _, _, _, _, _, _, _, _, rfl, k0, k1, k2, k3, k4, k5, k6, k7, k8, k9, k10, k11, k12, k13, k14, k15, k16, (Lib.hid fun _ => rfl), k18, k19, HW.out⟩
          · -- operation 18
            obtain rfl := k0.out (hd 0 (by decide))
            obtain rfl := k1.out (hd 1 (by decide))
            obtain rfl := k2.out (hd 2 (by decide))
            obtain rfl := k3.out (hd 3 (by decide))
            obtain rfl := k4.out (hd 4 (by decide))
            obtain rfl := k5.out (hd 5 (by decide))
            obtain rfl := k6.out (hd 6 (by decide))
            obtain rfl := k7.out (hd 7 (by decide))
            obtain rfl := k8.out (hd 8 (by decide))
            obtain rfl := k9.out (hd 9 (by decide))
            obtain rfl := k10.out (hd 10 (by decide))
            obtain rfl := k11.out (hd 11 (by decide))
            obtain rfl := k12.out (hd 12 (by decide))
            obtain rfl := k13.out (hd 13 (by decide))
            obtain rfl := k14.out (hd 14 (by decide))
            obtain rfl := k15.out (hd 15 (by decide))
            obtain rfl := k16.out (hd 16 (by decide))
            obtain rfl := k17.out (hd 17 (by decide))
            have HW := Lib.hid hW
            clear hW hL hd
            refine wpOp_step rfl fun K hK => ?_
            go_simp
            refine hK _ _ ⟨_, _, _, _, _, _, _, _, _, _, _, _, _, _, _, _, _, _, _, _, rfl, k0, k1, k2, k3, k4, k5, k6, k7, k8, k9, k10, k11, k12, k13, k14, k15, k16, k17, (Lib.hid fun _ => rfl), k19, HW.out⟩
          · -- operation 19
            obtain rfl := k0.out (hd 0 (by decide))
            obtain rfl := k1.out (hd 1 (by decide))
            obtain rfl := k2.out (hd 2 (by decide))
            obtain rfl := k3.out (hd 3 (by decide))
            obtain rfl := k4.out (hd 4 (by decide))
            obtain rfl := k5.out (hd 5 (by decide))
            obtain rfl := k6.out (hd 6 (by decide))
            obtain rfl := k7.out (hd 7 (by decide))
            obtain rfl := k8.out (hd 8 (by decide))
            obtain rfl := k9.out (hd 9 (by decide))
            obtain rfl := k10.out (hd 10 (by decide))
            obtain rfl := k11.out (hd 11 (by decide))
            obtain rfl := k12.out (hd 12 (by decide))
            obtain rfl := k13.out (hd 13 (by decide))
            obtain rfl := k14.out (hd 14 (by decide))
            obtain rfl := k15.out (hd 15 (by decide))
            obtain rfl := k16.out (hd 16 (by decide))
            obtain rfl := k17.out (hd 17 (by decide))
            obtain rfl := k18.out (hd 18 (by decide))
            have HW := Lib.hid hW
            clear hW hL hd
            refine wpOp_step rfl fun K hK => ?_
            go_simp
            refine hK _ _ ⟨_, _, _, _, _, _, _, _, _, _, _, _, _, _, _, _, _, _, _, _, rfl, k0, k1, k2, k3, k4, k5, k6, k7, k8, k9, k10, k11, k12, k13, k14, k15, k16, k17, k18, (Lib.hid fun _ => rfl), HW.out⟩
        intro L a' u hI hall
        obtain ⟨v4, v59, v60, v61, v62, v63, v64, v65, v66, v67, v68, v69, v70, v71, v72, v73, v74, v75, v76, v77, rfl, k0, k1, k2, k3, k4, k5, k6, k7, k8, k9, k10, k11, k12, k13, k14, k15, k16, k17, k18, k19, hW⟩ := hI
        obtain rfl := k0.out (hall 0 (by decide))
        obtain rfl := k1.out (hall 1 (by decide))
        obtain rfl := k2.out (hall 2 (by decide))
        obtain rfl := k3.out (hall 3 (by decide))
        obtain rfl := k4.out (hall 4 (by decide))
        obtain rfl := k5.out (hall 5 (by decide))
        obtain rfl := k6.out (hall 6 (by decide))
        obtain rfl := k7.out (hall 7 (by decide))
        obtain rfl := k8.out (hall 8 (by decide))
        obtain rfl := k9.out (hall 9 (by decide))
        obtain rfl := k10.out (hall 10 (by decide))
        obtain rfl := k11.out (hall 11 (by decide))
        obtain rfl := k12.out (hall 12 (by decide))
        obtain rfl := k13.out (hall 13 (by decide))
        obtain rfl := k14.out (hall 14 (by decide))
        obtain rfl := k15.out (hall 15 (by decide))
        obtain rfl := k16.out (hall 16 (by decide))
        obtain rfl := k17.out (hall 17 (by decide))
        obtain rfl := k18.out (hall 18 (by decide))
        obtain rfl := k19.out (hall 19 (by decide))
        clear k0 k1 k2 k3 k4 k5 k6 k7 k8 k9 k10 k11 k12 k13 k14 k15 k16 k17 k18 k19 hall
        show wpOps _ _ _ [] _ _
        unfold wpOps
        dsimp only
        have HW := Lib.hid hW
        clear hW hA
        go_wp2
        go_ret
        exact ⟨rfl, HW.out.2⟩
end Go.Proofs.Ytojplcchoffapaa
