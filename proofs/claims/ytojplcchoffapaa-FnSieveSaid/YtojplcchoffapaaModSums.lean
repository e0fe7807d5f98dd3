/- The walk of FnModSums. Conditions: none. -/
import Derived.Test.YtojplcchoffapaaPlainMods
import Derived.Test.YtojplcchoffapaaSmall
import Derived.Test.YtojplcchoffapaaHasP
import Derived.Test.YtojplcchoffapaaSpots
namespace Go.Proofs.Ytojplcchoffapaa
open Go.RowKit

theorem At.pts {w : World} {g : Nat} {l : List P} (h : At w g 27 (pflat l)) : Pts w (some ⟨g, 0, none⟩) l := by
  intro _
  exact ⟨g, 0, rfl, h.lt, fun j u hu => by rw [Nat.zero_add, h.cell j]; exact hu⟩
theorem modP_eq {x y a b c d m k : Int} (h1 : modI x a (c - a) = m) (h2 : modI y b (d - b) = k) : [(⟨x, y⟩ : P)].map (modP a b c d) = [⟨m, k⟩] := by simp [modP, h1, h2]
theorem modP_eq2 {x y a b c d m k x' y' m' k' : Int} (h1 : modI x a (c - a) = m) (h2 : modI y b (d - b) = k) (h3 : modI x' a (c - a) = m') (h4 : modI y' b (d - b) = k') : [(⟨x, y⟩ : P), ⟨x', y'⟩].map (modP a b c d) = [⟨m, k⟩, ⟨m', k'⟩] := by simp [modP, h1, h2, h3, h4]

/-- two numbers lie there -/
def Pair (w : World) (g o : Nat) (p q : Int) : Prop := g < w.heap.size ∧ w.cell? ⟨g, o, none⟩ = some (.int .i64 p) ∧ w.cell? ⟨g, o + 1, none⟩ = some (.int .i64 q)
theorem Pair.by {w w' : World} {g o : Nat} {p q : Int} (h : Pair w g o p q) (hb : Below w.heap.size w w') : Pair w' g o p q :=
  ⟨by have := hb.size; have := h.1; omega, (hb.cell (p := ⟨g, o, none⟩) h.1).trans h.2.1, (hb.cell (p := ⟨g, o + 1, none⟩) h.1).trans h.2.2⟩
theorem Pts.four_ {w : World} {A : Option Addr} {p q r s : Int} (h : Pts w A [⟨p, q⟩, ⟨r, s⟩]) : ∃ g o, A = some ⟨g, o, none⟩ ∧ Four w g o p q r s := by
  obtain ⟨g, o, rfl, hg, hc⟩ := h (by simp)
  exact ⟨g, o, rfl, hg, hc 0 _ rfl, hc 1 _ rfl, hc 2 _ rfl, hc 3 _ rfl⟩
/-- the value is a slice of four numbers -/
def N4 (u : World) (v : Value) (a b c d : Int) : Prop := ∃ g, v = .slice (some ⟨g, 0, none⟩) 4 4 ∧ At u g 3 [.int .i64 a, .int .i64 b, .int .i64 c, .int .i64 d]
theorem N4.by {u u' : World} {v : Value} {a b c d : Int} (h : N4 u v a b c d) (hb : Below u.heap.size u u') : N4 u' v a b c d := by
  obtain ⟨g, e, hg⟩ := h
  exact ⟨g, e, hg.by hb⟩
theorem numbers_n4 (a b c d : Int) (w : World) : Calls Try.prog 19 #[.agg #[.int .i64 a, .int .i64 b, .int .i64 c, .int .i64 d]] w fun e w' => ∃ v, e = .returned v ∧ N4 w' v a b c d ∧ Below w.heap.size w w' := by
  refine (numbers_any a b c d w).mono ?_
  rintro _ w' ⟨g, rfl, hg, hb⟩
  exact ⟨_, rfl, ⟨g, rfl, hg⟩, hb⟩
theorem has_n4 {u : World} {v : Value} {a b c d x y : Int} {t : Bool} (h : N4 u v a b c d) (hi : inB x y a b c d = t) :
    Calls Try.prog 22 #[v, .int .i64 x, .int .i64 y] u fun e w' => e = .returned (.bool t) ∧ Below u.heap.size u w' := by
  obtain ⟨g, rfl, hg⟩ := h
  refine (Has_any g a b c d x y u hg).mono ?_
  rintro e w' ⟨rfl, rfl⟩
  exact ⟨by rw [hi], Below.refl _ _⟩

def tab_sums7 : List (List Nat) := [[], [], [0, 1], [], [], [3, 4], [0, 1, 2, 3, 4, 5], [], [7], [7, 8], [7, 8, 9], [], [7, 8, 9, 10, 11], [], [13], [13, 14], [13, 14, 15], [], [13, 14, 15, 16, 17], [7, 8, 9, 10, 11, 12, 13, 14, 15, 16, 17, 18], [0, 1, 2, 3, 4, 5, 6, 7, 8, 9, 10, 11, 12, 13, 14, 15, 16, 17, 18, 19], [], [0, 1, 2, 3, 4, 5, 6, 7, 8, 9, 10, 11, 12, 13, 14, 15, 16, 17, 18, 19, 20, 21], [0, 1, 2, 3, 4, 5, 6, 7, 8, 9, 10, 11, 12, 13, 14, 15, 16, 17, 18, 19, 20, 21, 22], [0, 1, 2, 3, 4, 5, 6, 7, 8, 9, 10, 11, 12, 13, 14, 15, 16, 17, 18, 19, 20, 21, 22, 23], [0, 1, 2, 3, 4, 5, 6, 7, 8, 9, 10, 11, 12, 13, 14, 15, 16, 17, 18, 19, 20, 21, 22, 23], [0, 1, 2, 3, 4, 5, 6, 7, 8, 9, 10, 11, 12, 13, 14, 15, 16, 17, 18, 19, 20, 21, 22, 23, 24], [0, 1, 2, 3, 4, 5, 6, 7, 8, 9, 10, 11, 12, 13, 14, 15, 16, 17, 18, 19, 20, 21, 22, 23, 24, 25, 26]]
def tab_sums8 : List (List Nat) := [[], [0], [0, 1], [0, 1, 2], [0, 1, 2, 3], [0, 1, 2, 3, 4], [0, 1, 2, 3, 4, 5], [0, 1, 2, 3, 4, 5, 6], [0, 1, 2, 3, 4, 5, 6, 7], [0, 1, 2, 3, 4, 5, 6, 7, 8], [0, 1, 2, 3, 4, 5, 6, 7, 8, 9], [0, 1, 2, 3, 4, 5, 6, 7], [0, 1, 2, 3, 4, 5, 6, 7, 11], [0, 1, 2, 3, 4, 5, 6, 7, 11, 12], [0, 1, 2, 3, 4, 5, 6, 7, 8, 9, 10, 11, 12, 13], [0, 1, 2, 3, 4, 5, 6, 7, 8, 9, 10, 11, 12, 13, 14], [0, 1, 2, 3, 4, 5, 6, 7, 8, 9, 10, 11, 12, 13, 14, 15], [0, 1, 2, 3, 4, 5, 6, 7, 8, 9, 10, 11, 12, 13, 14, 15, 16], [0, 1, 2, 3, 4, 5, 6, 7, 8, 9, 10, 11, 12, 13, 14, 15, 16, 17], [0, 1, 2, 3, 4, 5, 6, 7, 8, 9, 10, 11, 12, 13, 14, 15, 16], [0, 1, 2, 3, 4, 5, 6, 7, 8, 9, 10, 11, 12, 13, 14, 15, 16, 19], [0, 1, 2, 3, 4, 5, 6, 7, 8, 9, 10, 11, 12, 13, 14, 15, 16, 19, 20], [0, 1, 2, 3, 4, 5, 6, 7, 8, 9, 10, 11, 12, 13, 14, 15, 16, 19, 20, 21], [0, 1, 2, 3, 4, 5, 6, 7, 8, 9, 10, 11, 12, 13, 14, 15, 16], [0, 1, 2, 3, 4, 5, 6, 7, 8, 9, 10, 11, 12, 13, 14, 15, 16, 23], [0, 1, 2, 3, 4, 5, 6, 7, 8, 9, 10, 11, 12, 13, 14, 15, 16, 23, 24], [0, 1, 2, 3, 4, 5, 6, 7, 8, 9, 10, 11, 12, 13, 14, 15, 16, 23, 24, 25], [0, 1, 2, 3, 4, 5, 6, 7, 8, 9, 10, 11, 12, 13, 14, 15, 16, 17, 18, 19, 20, 21, 22, 23, 24, 25, 26], [0, 1, 2, 3, 4, 5, 6, 7, 8, 9, 10, 11, 12, 13, 14, 15, 16, 17, 18, 19, 20, 21, 22, 23, 24, 25, 26, 27], [0, 1, 2, 3, 4, 5, 6, 7, 8, 9, 10, 11, 12, 13, 14, 15, 16, 17, 18, 19, 20, 21, 22, 23, 24, 25, 26, 27, 28]]
set_option maxHeartbeats 8000000 in
theorem modsums_walk (A : Option Addr) (n c0 : Nat) (z : List Int) (x y dx dy : Int) (w : World) (h : Ints w A n z) :
    Calls Try.prog 4 #[.slice A n c0, .int .i64 x, .int .i64 y, .int .i64 dx, .int .i64 dy] w fun e w' => e = .returned (.bool true) ∧ Below w.heap.size w w' := by
  have L1 := fun u hu => lrect_any A n c0 z u hu
  generalize rectOf z = r at L1
  obtain ⟨a, b, c, d⟩ := r
  have HL1 := Lib.hid L1
  have H1 := Lib.hid h
  clear L1 h
  obtain ⟨p, hp⟩ : ∃ p, (!emptyB a b c d) = p := ⟨_, rfl⟩
  obtain ⟨s1, hs1⟩ : ∃ p, allB 1125899906842624 [a, b, c, d] = p := ⟨_, rfl⟩
  obtain ⟨s2, hs2⟩ : ∃ p, allB 1125899906842624 [x, y, dx, dy] = p := ⟨_, rfl⟩
  have HP := Lib.hid hp
  have HS1 := Lib.hid hs1
  have HS2 := Lib.hid hs2
  clear hp hs1 hs2
  go_enter Try.func4, Try.ntmps4
  go_wp2_with fail
  refine (HL1.out _ H1.out).mono ?_
  rintro _ w1 ⟨rfl, hb1⟩
  have HB1 := Lib.hid hb1
  clear hb1
  go_wp2_with fail
  refine (numbers_any _ _ _ _ _).mono ?_
  rintro _ w2 ⟨g2, rfl, hg2, hb2⟩
  have hP := haspoints_any g2 a b c d w2 hg2
  rw [HP.out] at hP
  have hb2' := (HB1.out.alloc (by first | exact Nat.le_refl _ | exact HB1.out.size) (.cells #[.int .i64 a, .int .i64 b, .int .i64 c, .int .i64 d] 24)).trans (hb2.mono (by rw [size_alloc]; have := HB1.out.size; omega))
  have h11 := (At.new w1 24 [.int .i64 a, .int .i64 b, .int .i64 c, .int .i64 d]).by hb2
  have HB2 := Lib.hid (And.intro h11 hb2')
  have HPC := Lib.hid hP
  clear hP hg2 hb2 hb2' h11
  go_wp2_with fail
  refine HPC.out.mono ?_
  rintro _ w3 ⟨rfl, hb3⟩
  have HB3 := Lib.hid (And.intro (HB2.out.1.by hb3) (HB2.out.2.trans (hb3.mono HB2.out.2.size)))
  clear hb3 HPC HB2
  obtain ⟨c0', c1', c2', c3'⟩ := HB3.out.1.four.1
  cases p with
  | false =>
    go_wp2
    go_ret
    exact ⟨rfl, HB3.out.2⟩
  | true =>
    go_wp2_with fail
    clear c0' c1' c2' c3'
    refine (numbers_any _ _ _ _ _).mono ?_
    rintro _ w4 ⟨g4, rfl, hg4, hb4⟩
    have hS := Small_any 1125899906842624 _ 4 4 _ w4 (At.ints (zs := [a, b, c, d]) hg4) (by omega) (by omega) (by omega)
    rw [HS1.out] at hS
    have HSC := Lib.hid hS
    have HB4 := Lib.hid (And.intro (HB3.out.1.by hb4) (HB3.out.2.trans (hb4.mono HB3.out.2.size)))
    clear hS hg4 hb4 HB3
    go_wp2_with fail
    refine HSC.out.mono ?_
    rintro _ w5 ⟨rfl, hb5⟩
    have HB5 := Lib.hid (And.intro (HB4.out.1.by hb5) (HB4.out.2.trans (hb5.mono HB4.out.2.size)))
    clear hb5 HSC HB4
    cases s1 with
    | false =>
      go_wp2
      go_ret
      exact ⟨rfl, HB5.out.2⟩
    | true =>
      go_wp2_with fail
      obtain ⟨w5', hw5'⟩ : ∃ u, u = w5.alloc (.cells #[.int .i64 x, .int .i64 y, .int .i64 dx, .int .i64 dy] 3) := ⟨_, rfl⟩
      have hg6 := At.new w5 3 [.int .i64 x, .int .i64 y, .int .i64 dx, .int .i64 dy]
      have hS := Small_any 1125899906842624 _ 4 4 _ _ (At.ints (zs := [x, y, dx, dy]) hg6) (by omega) (by omega) (by omega)
      rw [HS2.out] at hS
      have HSC := Lib.hid hS
      have HB5' := Lib.hid (And.intro (HB5.out.1.alloc (.cells #[.int .i64 x, .int .i64 y, .int .i64 dx, .int .i64 dy] 3)) (HB5.out.2.alloc HB5.out.2.size (.cells #[.int .i64 x, .int .i64 y, .int .i64 dx, .int .i64 dy] 3)))
      clear hS hg6 w5' hw5'
      refine HSC.out.mono ?_
      rintro _ w6 ⟨rfl, hb6⟩
      have HB6 := Lib.hid (And.intro (HB5'.out.1.by hb6) (HB5'.out.2.trans (hb6.mono HB5'.out.2.size)))
      clear hb6 HSC HB5 HB5'
      cases s2 with
      | false =>
        go_wp2
        go_ret
        exact ⟨rfl, HB6.out.2⟩
      | true =>
        have hn1 := HS1.out
        have hn2 := HS2.out
        have hn0 := HP.out
        simp only [allB, List.all_cons, List.all_nil, Bool.and_true, Bool.and_eq_true, okB_iff] at hn1 hn2
        simp only [emptyB, Bool.not_eq_true', Bool.or_eq_false_iff, decide_eq_false_iff_not] at hn0
        obtain ⟨m, hm⟩ : ∃ m, modI x a (c - a) = m := ⟨_, rfl⟩
        obtain ⟨k, hk⟩ : ∃ m, modI y b (d - b) = m := ⟨_, rfl⟩
        obtain ⟨m2, hm2⟩ : ∃ q, modI (x + dx) a (c - a) = q := ⟨_, rfl⟩
        obtain ⟨k2, hk2⟩ : ∃ q, modI (y + dy) b (d - b) = q := ⟨_, rfl⟩
        have hm3 : modI (m + dx) a (c - a) = m2 := by rw [← hm, modI_sum, hm2]
        have hk3 : modI (k + dy) b (d - b) = k2 := by rw [← hk, modI_sum, hk2]
        have hin := modP_in a b c d (x + dx) (y + dy) (by omega) (by omega)
        rw [hm2, hk2] at hin
        have hr1 := modI_in x a (c - a) (by omega)
        have hr2 := modI_in y b (d - b) (by omega)
        rw [hm] at hr1
        rw [hk] at hr2
        have hadd1 : IntKind.i64.wrap (x + dx) = x + dx := IntWalk.i64_in _ (by omega)
        have hadd2 : IntKind.i64.wrap (y + dy) = y + dy := IntWalk.i64_in _ (by omega)
        have hadd3 : IntKind.i64.wrap (m + dx) = m + dx := IntWalk.i64_in _ (by omega)
        have hadd4 : IntKind.i64.wrap (k + dy) = k + dy := IntWalk.i64_in _ (by omega)
        have HM1 := Lib.hid (fun u A cp (hP : Pts u A [⟨x, y⟩]) => modP_eq (x := x) (y := y) hm hk ▸ mods_near A cp [⟨x, y⟩] a b c d u hP (by simp) (by simp [NearP, Near]; omega) (by unfold Near; omega) (by unfold Near; omega) (by unfold Near; omega) (by unfold Near; omega) (by omega) (by omega))
        have HM2 := Lib.hid (fun u A cp (hP : Pts u A [⟨x + dx, y + dy⟩, ⟨m + dx, k + dy⟩]) => modP_eq2 (x := x + dx) (y := y + dy) hm2 hk2 hm3 hk3 ▸ mods_near A cp [⟨x + dx, y + dy⟩, ⟨m + dx, k + dy⟩] a b c d u hP (by simp) (by simp [NearP, Near]; omega) (by unfold Near; omega) (by unfold Near; omega) (by unfold Near; omega) (by unfold Near; omega) (by omega) (by omega))
        have HIN := Lib.hid hin
        have HADD := Lib.hid (And.intro hadd1 (And.intro hadd2 (And.intro hadd3 hadd4)))
        clear hn0 hn1 hn2 hm hk hm2 hk2 hm3 hk3 hin hr1 hr2 hadd1 hadd2 hadd3 hadd4 HP HS1 HS2
        obtain ⟨c0', c1', c2', c3'⟩ := HB6.out.1.four.1
        have clt := HB6.out.1.lt
        go_wp2_with fail
        clear c0' c1' c2' c3' clt
        refine (HM1.out _ _ 1 (At.pts (l := [⟨x, y⟩]) (At.new _ _ _))).mono ?_
        rintro _ w7 ⟨v7, rfl, ho7, hb7⟩
        obtain ⟨A7, cp7, rfl, hP7⟩ := ho7.form
        obtain ⟨g7, o7, rfl, hg7, y0, y1⟩ := hP7.at_ (i := 0) (by simp)
        simp only [Nat.zero_mul, Nat.add_zero, List.getElem_cons_zero] at y0 y1
        have HB7 := Lib.hid (And.intro ((HB6.out.1.alloc _).by hb7) (And.intro (And.intro y0 y1) ((HB6.out.2.alloc HB6.out.2.size _).trans (hb7.mono (by rw [size_alloc]; have := HB6.out.2.size; omega)))))
        clear ho7 hP7 hb7 y0 y1 HB6 HM1
        go_wp2_with fail
        refine from_table tab_sums7 (by kernel_rfl) (by kernel_rfl) (by kernel_rfl) (by kernel_rfl) fun hTab => ?_
        refine from_gen (fun u => At u w1.heap.size 24 [.int .i64 (a), .int .i64 (b), .int .i64 (c), .int .i64 (d)] ∧ Pair u g7 o7 m k ∧ Below w7.heap.size w7 u) ?_ ?_
        · exact ⟨HB7.out.1, ⟨hg7, HB7.out.2.1⟩, (Below.refl _ _).drew⟩
        intro u hW
        -- operations 0 to 21
        refine from_block' hTab 0 22 (by decide) (by kernel_rfl)
          (fun L a' u => ∃ v53 v54 v55 v56 v57 v58 v59 v60 v61 v62 v63 v64 v65 v66 v67 v68 v69 v70 v71 v72 v73 v74 : Value, a' = ⟨#[Value.slice A n c0, .int .i64 x, .int .i64 y, .int .i64 dx, .int .i64 dy, undef, undef, undef, undef, undef, .bool false, .pointer (some ⟨w1.heap.size, 0, none⟩), .slice (some ⟨g7, o7, none⟩) 1 cp7, .bool false, undef, undef, Value.slice A n c0, .agg #[.int .i64 a, .int .i64 b, .int .i64 c, .int .i64 d], .agg #[.int .i64 a, .int .i64 b, .int .i64 c, .int .i64 d], .slice (some ⟨g2, 0, none⟩) 4 4, .bool true, .bool false, .bool false, .agg #[.int .i64 a, .int .i64 b, .int .i64 c, .int .i64 d], .slice (some ⟨g4, 0, none⟩) 4 4, .bool true, .bool false, .bool false, .bool false, .int .i64 x, .int .i64 y, .int .i64 dx, .int .i64 dy, .slice (some ⟨w5.heap.size, 0, none⟩) 4 4, .bool true, .bool false, .bool false, .tuple #[.slice (some ⟨g7, o7, none⟩) 1 cp7, .bool false], .int .i64 x, .int .i64 y, .agg #[.int .i64 x, .int .i64 y], .slice (some ⟨w6.heap.size, 0, none⟩) 1 1, .agg #[.int .i64 a, .int .i64 b, .int .i64 c, .int .i64 d], .tuple #[.slice (some ⟨g7, o7, none⟩) 1 cp7, .bool false], .slice (some ⟨g7, o7, none⟩) 1 cp7, .bool false, .bool false, .bool false, .slice (some ⟨g7, o7, none⟩) 1 cp7, .int .i64 1, .bool false, .bool false, undef, v53, v54, v55, v56, v57, v58, v59, v60, v61, v62, v63, v64, v65, v66, v67, v68, v69, v70, v71, v72, v73, v74, undef, undef, undef, undef, undef, undef, undef, undef, undef, undef, undef, undef, undef, undef, undef, undef, undef, undef, undef, undef, undef, undef, undef, undef, undef, undef, undef, undef, undef, undef, undef, undef], []⟩ ∧
            Hid (L 0 = true → v53 = .int .i64 x) ∧ Hid (L 1 = true → v54 = .int .i64 dx) ∧ Hid (L 2 = true → v55 = .int .i64 ((x + dx))) ∧ Hid (L 3 = true → v56 = .int .i64 y) ∧ Hid (L 4 = true → v57 = .int .i64 dy) ∧ Hid (L 5 = true → v58 = .int .i64 ((y + dy))) ∧ Hid (L 6 = true → v59 = .agg #[.int .i64 ((x + dx)), .int .i64 ((y + dy))]) ∧ Hid (L 7 = true → v60 = .slice (some ⟨g7, o7, none⟩) 1 cp7) ∧ Hid (L 8 = true → v61 = .pointer (some ⟨g7, o7, none⟩)) ∧ Hid (L 9 = true → v62 = .pointer (some ⟨g7, o7, none⟩)) ∧ Hid (L 10 = true → v63 = .int .i64 m) ∧ Hid (L 11 = true → v64 = .int .i64 dx) ∧ Hid (L 12 = true → v65 = .int .i64 ((m + dx))) ∧ Hid (L 13 = true → v66 = .slice (some ⟨g7, o7, none⟩) 1 cp7) ∧ Hid (L 14 = true → v67 = .pointer (some ⟨g7, o7, none⟩)) ∧ Hid (L 15 = true → v68 = .pointer (some ⟨g7, o7 + 1, none⟩)) ∧ Hid (L 16 = true → v69 = .int .i64 k) ∧ Hid (L 17 = true → v70 = .int .i64 dy) ∧ Hid (L 18 = true → v71 = .int .i64 ((k + dy))) ∧ Hid (L 19 = true → v72 = .agg #[.int .i64 ((m + dx)), .int .i64 ((k + dy))]) ∧ Hid (L 20 = true → ∃ g73, v73 = .slice (some ⟨g73, 0, none⟩) 2 2 ∧ w7.heap.size ≤ g73 ∧ At u g73 27 [.int .i64 ((x + dx)), .int .i64 ((y + dy)), .int .i64 ((m + dx)), .int .i64 ((k + dy))]) ∧ Hid (L 21 = true → v74 = .agg #[.int .i64 a, .int .i64 b, .int .i64 c, .int .i64 d]) ∧ (At u w1.heap.size 24 [.int .i64 (a), .int .i64 (b), .int .i64 (c), .int .i64 (d)] ∧ Pair u g7 o7 m k ∧ Below w7.heap.size w7 u)) ?_ ?_ ?_
        · exact ⟨_, _, _, _, _, _, _, _, _, _, _, _, _, _, _, _, _, _, _, _, _, _, rfl, (Lib.hid fun h => by cases h), (Lib.hid fun h => by cases h), (Lib.hid fun h => by cases h), (Lib.hid fun h => by cases h), (Lib.hid fun h => by cases h), (Lib.hid fun h => by cases h), (Lib.hid fun h => by cases h), (Lib.hid fun h => by cases h), (Lib.hid fun h => by cases h), (Lib.hid fun h => by cases h), (Lib.hid fun h => by cases h), (Lib.hid fun h => by cases h), (Lib.hid fun h => by cases h), (Lib.hid fun h => by cases h), (Lib.hid fun h => by cases h), (Lib.hid fun h => by cases h), (Lib.hid fun h => by cases h), (Lib.hid fun h => by cases h), (Lib.hid fun h => by cases h), (Lib.hid fun h => by cases h), (Lib.hid fun h => by cases h), (Lib.hid fun h => by cases h), hW⟩
        · clear hW
          intro L a' u i hi1 hi2 hI hL hd
          obtain ⟨v53, v54, v55, v56, v57, v58, v59, v60, v61, v62, v63, v64, v65, v66, v67, v68, v69, v70, v71, v72, v73, v74, rfl, k0, k1, k2, k3, k4, k5, k6, k7, k8, k9, k10, k11, k12, k13, k14, k15, k16, k17, k18, k19, k20, k21, hW⟩ := hI
          obtain rfl | rfl | rfl | rfl | rfl | rfl | rfl | rfl | rfl | rfl | rfl | rfl | rfl | rfl | rfl | rfl | rfl | rfl | rfl | rfl | rfl | rfl := (show ∀ i : Nat, 0 ≤ i → i < 22 → (i = 0 ∨ i = 1 ∨ i = 2 ∨ i = 3 ∨ i = 4 ∨ i = 5 ∨ i = 6 ∨ i = 7 ∨ i = 8 ∨ i = 9 ∨ i = 10 ∨ i = 11 ∨ i = 12 ∨ i = 13 ∨ i = 14 ∨ i = 15 ∨ i = 16 ∨ i = 17 ∨ i = 18 ∨ i = 19 ∨ i = 20 ∨ i = 21) by omega) i hi1 hi2
          · -- operation 0
            have HW := Lib.hid hW
            clear hW hL hd hi1 hi2
            refine wpOp_step rfl fun K hK => ?_
            go_simp
            refine hK _ _ ⟨_, _, _, _, _, _, _, _, _, _, _, _, _, _, _, _, _, _, _, _, _, _, rfl, (Lib.hid fun _ => rfl), k1, k2, k3, k4, k5, k6, k7, k8, k9, k10, k11, k12, k13, k14, k15, k16, k17, k18, k19, k20, k21, HW.out⟩
          · -- operation 1
            have HW := Lib.hid hW
            clear hW hL hd hi1 hi2
            refine wpOp_step rfl fun K hK => ?_
            go_simp
            refine hK _ _ ⟨_, _, _, _, _, _, _, _, _, _, _, _, _, _, _, _, _, _, _, _, _, _, rfl, k0, (Lib.hid fun _ => rfl), k2, k3, k4, k5, k6, k7, k8, k9, k10, k11, k12, k13, k14, k15, k16, k17, k18, k19, k20, k21, HW.out⟩
          · -- operation 2
            obtain rfl := k0.out (hd 0 (by decide))
            obtain rfl := k1.out (hd 1 (by decide))
            have HW := Lib.hid hW
            clear hW hL hd hi1 hi2
            refine wpOp_step rfl fun K hK => ?_
            go_simp
            rw [HADD.out.1]
            refine hK _ _ ⟨_, _, _, _, _, _, _, _, _, _, _, _, _, _, _, _, _, _, _, _, _, _, rfl, k0, k1, (Lib.hid fun _ => rfl), k3, k4, k5, k6, k7, k8, k9, k10, k11, k12, k13, k14, k15, k16, k17, k18, k19, k20, k21, HW.out⟩
          · -- operation 3
            have HW := Lib.hid hW
            clear hW hL hd hi1 hi2
            refine wpOp_step rfl fun K hK => ?_
            go_simp
            refine hK _ _ ⟨_, _, _, _, _, _, _, _, _, _, _, _, _, _, _, _, _, _, _, _, _, _, rfl, k0, k1, k2, (Lib.hid fun _ => rfl), k4, k5, k6, k7, k8, k9, k10, k11, k12, k13, k14, k15, k16, k17, k18, k19, k20, k21, HW.out⟩
          · -- operation 4
            have HW := Lib.hid hW
            clear hW hL hd hi1 hi2
            refine wpOp_step rfl fun K hK => ?_
            go_simp
            refine hK _ _ ⟨_, _, _, _, _, _, _, _, _, _, _, _, _, _, _, _, _, _, _, _, _, _, rfl, k0, k1, k2, k3, (Lib.hid fun _ => rfl), k5, k6, k7, k8, k9, k10, k11, k12, k13, k14, k15, k16, k17, k18, k19, k20, k21, HW.out⟩
          · -- operation 5
            obtain rfl := k3.out (hd 3 (by decide))
            obtain rfl := k4.out (hd 4 (by decide))
            have HW := Lib.hid hW
            clear hW hL hd hi1 hi2
            refine wpOp_step rfl fun K hK => ?_
            go_simp
            rw [HADD.out.2.1]
            refine hK _ _ ⟨_, _, _, _, _, _, _, _, _, _, _, _, _, _, _, _, _, _, _, _, _, _, rfl, k0, k1, k2, k3, k4, (Lib.hid fun _ => rfl), k6, k7, k8, k9, k10, k11, k12, k13, k14, k15, k16, k17, k18, k19, k20, k21, HW.out⟩
          · -- operation 6
            obtain rfl := k2.out (hd 2 (by decide))
            obtain rfl := k5.out (hd 5 (by decide))
            have HW := Lib.hid hW
            clear hW hL hd hi1 hi2
            refine wpOp_step rfl fun K hK => ?_
            go_simp
            refine hK _ _ ⟨_, _, _, _, _, _, _, _, _, _, _, _, _, _, _, _, _, _, _, _, _, _, rfl, k0, k1, k2, k3, k4, k5, (Lib.hid fun _ => rfl), k7, k8, k9, k10, k11, k12, k13, k14, k15, k16, k17, k18, k19, k20, k21, HW.out⟩
          · -- operation 7
            have HW := Lib.hid hW
            clear hW hL hd hi1 hi2
            refine wpOp_step rfl fun K hK => ?_
            go_simp
            refine hK _ _ ⟨_, _, _, _, _, _, _, _, _, _, _, _, _, _, _, _, _, _, _, _, _, _, rfl, k0, k1, k2, k3, k4, k5, k6, (Lib.hid fun _ => rfl), k8, k9, k10, k11, k12, k13, k14, k15, k16, k17, k18, k19, k20, k21, HW.out⟩
          · -- operation 8
            obtain rfl := k7.out (hd 7 (by decide))
            have HW := Lib.hid hW
            clear hW hL hd hi1 hi2
            refine wpOp_step rfl fun K hK => ?_
            go_simp
            refine hK _ _ ⟨_, _, _, _, _, _, _, _, _, _, _, _, _, _, _, _, _, _, _, _, _, _, rfl, k0, k1, k2, k3, k4, k5, k6, k7, (Lib.hid fun _ => rfl), k9, k10, k11, k12, k13, k14, k15, k16, k17, k18, k19, k20, k21, HW.out⟩
          · -- operation 9
            obtain rfl := k8.out (hd 8 (by decide))
            have HW := Lib.hid hW
            clear hW hL hd hi1 hi2
            refine wpOp_step rfl fun K hK => ?_
            go_simp
            refine hK _ _ ⟨_, _, _, _, _, _, _, _, _, _, _, _, _, _, _, _, _, _, _, _, _, _, rfl, k0, k1, k2, k3, k4, k5, k6, k7, k8, (Lib.hid fun _ => rfl), k10, k11, k12, k13, k14, k15, k16, k17, k18, k19, k20, k21, HW.out⟩
          · -- operation 10
            obtain rfl := k9.out (hd 9 (by decide))
            obtain ⟨c0, c1⟩ := hW.2.1.2
            have HW := Lib.hid hW
            clear hW hL hd hi1 hi2
            refine wpOp_step rfl fun K hK => ?_
            go_simp
            refine hK _ _ ⟨_, _, _, _, _, _, _, _, _, _, _, _, _, _, _, _, _, _, _, _, _, _, rfl, k0, k1, k2, k3, k4, k5, k6, k7, k8, k9, (Lib.hid fun _ => rfl), k11, k12, k13, k14, k15, k16, k17, k18, k19, k20, k21, HW.out⟩
          · -- operation 11
            have HW := Lib.hid hW
            clear hW hL hd hi1 hi2
            refine wpOp_step rfl fun K hK => ?_
            go_simp
            refine hK _ _ ⟨_, _, _, _, _, _, _, _, _, _, _, _, _, _, _, _, _, _, _, _, _, _, rfl, k0, k1, k2, k3, k4, k5, k6, k7, k8, k9, k10, (Lib.hid fun _ => rfl), k12, k13, k14, k15, k16, k17, k18, k19, k20, k21, HW.out⟩
          · -- operation 12
            obtain rfl := k10.out (hd 10 (by decide))
            obtain rfl := k11.out (hd 11 (by decide))
            have HW := Lib.hid hW
            clear hW hL hd hi1 hi2
            refine wpOp_step rfl fun K hK => ?_
            go_simp
            rw [HADD.out.2.2.1]
            refine hK _ _ ⟨_, _, _, _, _, _, _, _, _, _, _, _, _, _, _, _, _, _, _, _, _, _, rfl, k0, k1, k2, k3, k4, k5, k6, k7, k8, k9, k10, k11, (Lib.hid fun _ => rfl), k13, k14, k15, k16, k17, k18, k19, k20, k21, HW.out⟩
          · -- operation 13
            have HW := Lib.hid hW
            clear hW hL hd hi1 hi2
            refine wpOp_step rfl fun K hK => ?_
            go_simp
            refine hK _ _ ⟨_, _, _, _, _, _, _, _, _, _, _, _, _, _, _, _, _, _, _, _, _, _, rfl, k0, k1, k2, k3, k4, k5, k6, k7, k8, k9, k10, k11, k12, (Lib.hid fun _ => rfl), k14, k15, k16, k17, k18, k19, k20, k21, HW.out⟩
          · -- operation 14
            obtain rfl := k13.out (hd 13 (by decide))
            have HW := Lib.hid hW
            clear hW hL hd hi1 hi2
            refine wpOp_step rfl fun K hK => ?_
            go_simp
            refine hK _ _ ⟨_, _, _, _, _, _, _, _, _, _, _, _, _, _, _, _, _, _, _, _, _, _, rfl, k0, k1, k2, k3, k4, k5, k6, k7, k8, k9, k10, k11, k12, k13, (Lib.hid fun _ => rfl), k15, k16, k17, k18, k19, k20, k21, HW.out⟩
          · -- operation 15
            obtain rfl := k14.out (hd 14 (by decide))
            have HW := Lib.hid hW
            clear hW hL hd hi1 hi2
            refine wpOp_step rfl fun K hK => ?_
            go_simp
            refine hK _ _ ⟨_, _, _, _, _, _, _, _, _, _, _, _, _, _, _, _, _, _, _, _, _, _, rfl, k0, k1, k2, k3, k4, k5, k6, k7, k8, k9, k10, k11, k12, k13, k14, (Lib.hid fun _ => rfl), k16, k17, k18, k19, k20, k21, HW.out⟩
          · -- operation 16
            obtain rfl := k15.out (hd 15 (by decide))
            obtain ⟨c0, c1⟩ := hW.2.1.2
            have HW := Lib.hid hW
            clear hW hL hd hi1 hi2
            refine wpOp_step rfl fun K hK => ?_
            go_simp
            refine hK _ _ ⟨_, _, _, _, _, _, _, _, _, _, _, _, _, _, _, _, _, _, _, _, _, _, rfl, k0, k1, k2, k3, k4, k5, k6, k7, k8, k9, k10, k11, k12, k13, k14, k15, (Lib.hid fun _ => rfl), k17, k18, k19, k20, k21, HW.out⟩
          · -- operation 17
            have HW := Lib.hid hW
            clear hW hL hd hi1 hi2
            refine wpOp_step rfl fun K hK => ?_
            go_simp
            refine hK _ _ ⟨_, _, _, _, _, _, _, _, _, _, _, _, _, _, _, _, _, _, _, _, _, _, rfl, k0, k1, k2, k3, k4, k5, k6, k7, k8, k9, k10, k11, k12, k13, k14, k15, k16, (Lib.hid fun _ => rfl), k18, k19, k20, k21, HW.out⟩
          · -- operation 18
            obtain rfl := k16.out (hd 16 (by decide))
            obtain rfl := k17.out (hd 17 (by decide))
            have HW := Lib.hid hW
            clear hW hL hd hi1 hi2
            refine wpOp_step rfl fun K hK => ?_
            go_simp
            rw [HADD.out.2.2.2]
            refine hK _ _ ⟨_, _, _, _, _, _, _, _, _, _, _, _, _, _, _, _, _, _, _, _, _, _, rfl, k0, k1, k2, k3, k4, k5, k6, k7, k8, k9, k10, k11, k12, k13, k14, k15, k16, k17, (Lib.hid fun _ => rfl), k19, k20, k21, HW.out⟩
          · -- operation 19
            obtain rfl := k12.out (hd 12 (by decide))
            obtain rfl := k18.out (hd 18 (by decide))
            have HW := Lib.hid hW
            clear hW hL hd hi1 hi2
            refine wpOp_step rfl fun K hK => ?_
            go_simp
            refine hK _ _ ⟨_, _, _, _, _, _, _, _, _, _, _, _, _, _, _, _, _, _, _, _, _, _, rfl, k0, k1, k2, k3, k4, k5, k6, k7, k8, k9, k10, k11, k12, k13, k14, k15, k16, k17, k18, (Lib.hid fun _ => rfl), k20, k21, HW.out⟩
          · -- operation 20
            obtain rfl := k6.out (hd 6 (by decide))
            obtain rfl := k19.out (hd 19 (by decide))
            have HW := Lib.hid hW
            clear hW hL hd hi1 hi2
            refine wpOp_step rfl fun K hK => ?_
            go_simp
            refine hK _ _ ⟨_, _, _, _, _, _, _, _, _, _, _, _, _, _, _, _, _, _, _, _, _, _, rfl, k0, k1, k2, k3, k4, k5, k6, k7, k8, k9, k10, k11, k12, k13, k14, k15, k16, k17, k18, k19, (Lib.hid fun _ => ⟨_, rfl, HW.out.2.2.size, At.new _ _ _⟩), k21, ⟨HW.out.1.by ((Below.refl _ _).alloc (Nat.le_refl _) _), HW.out.2.1.by ((Below.refl _ _).alloc (Nat.le_refl _) _), HW.out.2.2.trans (((Below.refl _ _).alloc (Nat.le_refl _) _).mono HW.out.2.2.size)⟩⟩
          · -- operation 21
            obtain ⟨c0, c1, c2, c3⟩ := hW.1.four.1
            have HW := Lib.hid hW
            clear hW hL hd hi1 hi2
            refine wpOp_step rfl fun K hK => ?_
            go_simp
            refine hK _ _ ⟨_, _, _, _, _, _, _, _, _, _, _, _, _, _, _, _, _, _, _, _, _, _, rfl, k0, k1, k2, k3, k4, k5, k6, k7, k8, k9, k10, k11, k12, k13, k14, k15, k16, k17, k18, k19, k20, (Lib.hid fun _ => rfl), HW.out⟩
        clear hW
        clear u
        intro L a' u hI hall
        obtain ⟨v53, v54, v55, v56, v57, v58, v59, v60, v61, v62, v63, v64, v65, v66, v67, v68, v69, v70, v71, v72, v73, v74, rfl, k0, k1, k2, k3, k4, k5, k6, k7, k8, k9, k10, k11, k12, k13, k14, k15, k16, k17, k18, k19, k20, k21, hW⟩ := hI
        obtain ⟨g73, e73, l73, h73⟩ := k20.out (hall 20 (by decide))
        obtain rfl := k0.out (hall 0 (by decide))
        obtain rfl := k1.out (hall 1 (by decide))
        obtain rfl := k2.out (hall 2 (by decide))
        obtain rfl := k3.out (hall 3 (by decide))
        obtain rfl := k4.out (hall 4 (by decide))
        obtain rfl := k5.out (hall 5 (by decide))
        obtain rfl := k6.out (hall 6 (by decide))
        obtain rfl := k7.out (hall 7 (by decide))
        obtain rfl := k8.out (hall 8 (by decide))
        obtain rfl := k9.out (hall 9 (by decide))
        obtain rfl := k10.out (hall 10 (by decide))
        obtain rfl := k11.out (hall 11 (by decide))
        obtain rfl := k12.out (hall 12 (by decide))
        obtain rfl := k13.out (hall 13 (by decide))
        obtain rfl := k14.out (hall 14 (by decide))
        obtain rfl := k15.out (hall 15 (by decide))
        obtain rfl := k16.out (hall 16 (by decide))
        obtain rfl := k17.out (hall 17 (by decide))
        obtain rfl := k18.out (hall 18 (by decide))
        obtain rfl := k19.out (hall 19 (by decide))
        obtain rfl := k21.out (hall 21 (by decide))
        subst e73
        clear k0 k1 k2 k3 k4 k5 k6 k7 k8 k9 k10 k11 k12 k13 k14 k15 k16 k17 k18 k19 k20 k21 hall L
        -- operation 22 alone
        refine from_one' hTab 22 (by kernel_rfl) ?_
        have HW := Lib.hid hW
        have Hh73 := Lib.hid h73
        clear hW h73
        refine wpOp_step rfl fun K hK => ?_
        go_simp
        go_at_call 21
        refine (HM2.out _ _ 2 (At.pts (l := [⟨x + dx, y + dy⟩, ⟨m + dx, k + dy⟩]) Hh73.out)).mono ?_
        rintro _ w' ⟨v8, rfl, ho8, hb⟩
        obtain ⟨A8, c8, rfl, hP8⟩ := ho8.form
        obtain ⟨g8, o8, rfl, h8⟩ := hP8.four_
        refine hK _ _ ?_
        clear hK K
        refine from_gen (fun u => (At u w1.heap.size 24 [.int .i64 (a), .int .i64 (b), .int .i64 (c), .int .i64 (d)] ∧ Four u g8 o8 m2 k2 m2 k2 ∧ Below w7.heap.size w7 u)) (⟨HW.out.1.by hb, h8, HW.out.2.2.trans (hb.mono HW.out.2.2.size)⟩) ?_
        clear hb HW Hh73 ho8 hP8 h8
        intro u hW
        -- operation 23 alone
        refine from_one' hTab 23 (by kernel_rfl) ?_
        have HW := Lib.hid hW
        clear hW
        refine wpOp_step rfl fun K hK => ?_
        go_simp
        refine hK _ _ ?_
        clear hK K
        have hW := HW.out
        clear HW
        -- operations 24 to 26
        refine from_block' hTab 24 27 (by decide) (by kernel_rfl)
          (fun L a' u => ∃ v14 v76 v77 : Value, a' = ⟨#[Value.slice A n c0, .int .i64 x, .int .i64 y, .int .i64 dx, .int .i64 dy, undef, undef, undef, undef, undef, .bool false, .pointer (some ⟨w1.heap.size, 0, none⟩), .slice (some ⟨g7, o7, none⟩) 1 cp7, .bool false, v14, undef, Value.slice A n c0, .agg #[.int .i64 a, .int .i64 b, .int .i64 c, .int .i64 d], .agg #[.int .i64 a, .int .i64 b, .int .i64 c, .int .i64 d], .slice (some ⟨g2, 0, none⟩) 4 4, .bool true, .bool false, .bool false, .agg #[.int .i64 a, .int .i64 b, .int .i64 c, .int .i64 d], .slice (some ⟨g4, 0, none⟩) 4 4, .bool true, .bool false, .bool false, .bool false, .int .i64 x, .int .i64 y, .int .i64 dx, .int .i64 dy, .slice (some ⟨w5.heap.size, 0, none⟩) 4 4, .bool true, .bool false, .bool false, .tuple #[.slice (some ⟨g7, o7, none⟩) 1 cp7, .bool false], .int .i64 x, .int .i64 y, .agg #[.int .i64 x, .int .i64 y], .slice (some ⟨w6.heap.size, 0, none⟩) 1 1, .agg #[.int .i64 a, .int .i64 b, .int .i64 c, .int .i64 d], .tuple #[.slice (some ⟨g7, o7, none⟩) 1 cp7, .bool false], .slice (some ⟨g7, o7, none⟩) 1 cp7, .bool false, .bool false, .bool false, .slice (some ⟨g7, o7, none⟩) 1 cp7, .int .i64 1, .bool false, .bool false, .tuple #[.slice (some ⟨g8, o8, none⟩) 2 c8, .bool false], .int .i64 x, .int .i64 dx, .int .i64 ((x + dx)), .int .i64 y, .int .i64 dy, .int .i64 ((y + dy)), .agg #[.int .i64 ((x + dx)), .int .i64 ((y + dy))], .slice (some ⟨g7, o7, none⟩) 1 cp7, .pointer (some ⟨g7, o7, none⟩), .pointer (some ⟨g7, o7, none⟩), .int .i64 m, .int .i64 dx, .int .i64 ((m + dx)), .slice (some ⟨g7, o7, none⟩) 1 cp7, .pointer (some ⟨g7, o7, none⟩), .pointer (some ⟨g7, o7 + 1, none⟩), .int .i64 k, .int .i64 dy, .int .i64 ((k + dy)), .agg #[.int .i64 ((m + dx)), .int .i64 ((k + dy))], .slice (some ⟨g73, 0, none⟩) 2 2, .agg #[.int .i64 a, .int .i64 b, .int .i64 c, .int .i64 d], .tuple #[.slice (some ⟨g8, o8, none⟩) 2 c8, .bool false], v76, v77, undef, undef, undef, undef, undef, undef, undef, undef, undef, undef, undef, undef, undef, undef, undef, undef, undef, undef, undef, undef, undef, undef, undef, undef, undef, undef, undef, undef, undef], []⟩ ∧
            Hid (L 24 = true → v76 = .slice (some ⟨g8, o8, none⟩) 2 c8) ∧ Hid (L 25 = true → v77 = .bool false) ∧ Hid (L 26 = true → v14 = .slice (some ⟨g8, o8, none⟩) 2 c8) ∧ (At u w1.heap.size 24 [.int .i64 (a), .int .i64 (b), .int .i64 (c), .int .i64 (d)] ∧ Four u g8 o8 m2 k2 m2 k2 ∧ Below w7.heap.size w7 u)) ?_ ?_ ?_
        · exact ⟨_, _, _, rfl, (Lib.hid fun h => by cases h), (Lib.hid fun h => by cases h), (Lib.hid fun h => by cases h), hW⟩
        · clear hW
          intro L a' u i hi1 hi2 hI hL hd
          obtain ⟨v14, v76, v77, rfl, k24, k25, k26, hW⟩ := hI
          obtain rfl | rfl | rfl := (show ∀ i : Nat, 24 ≤ i → i < 27 → (i = 24 ∨ i = 25 ∨ i = 26) by omega) i hi1 hi2
          · -- operation 24
            have HW := Lib.hid hW
            clear hW hL hd hi1 hi2
            refine wpOp_step rfl fun K hK => ?_
            go_simp
            refine hK _ _ ⟨_, _, _, rfl, (Lib.hid fun _ => rfl), k25, k26, HW.out⟩
          · -- operation 25
            have HW := Lib.hid hW
            clear hW hL hd hi1 hi2
            refine wpOp_step rfl fun K hK => ?_
            go_simp
            refine hK _ _ ⟨_, _, _, rfl, k24, (Lib.hid fun _ => rfl), k26, HW.out⟩
          · -- operation 26
            obtain rfl := k24.out (hd 24 (by decide))
            have HW := Lib.hid hW
            clear hW hL hd hi1 hi2
            refine wpOp_step rfl fun K hK => ?_
            go_simp
            refine hK _ _ ⟨_, _, _, rfl, k24, k25, (Lib.hid fun _ => rfl), HW.out⟩
        clear hW
        clear u
        intro L a' u hI hall
        obtain ⟨v14, v76, v77, rfl, k24, k25, k26, hW⟩ := hI
        obtain rfl := k24.out (hall 24 (by decide))
        obtain rfl := k25.out (hall 25 (by decide))
        obtain rfl := k26.out (hall 26 (by decide))
        clear k24 k25 k26 hall L
        -- operation 27 alone
        refine from_one' hTab 27 (by kernel_rfl) ?_
        have HW := Lib.hid hW
        clear hW
        refine wpOp_step rfl fun K hK => ?_
        go_simp
        refine hK _ _ ?_
        clear hK K
        have hW := HW.out
        clear HW
        refine from_end' hTab 28 (by kernel_rfl) ?_
        clear hTab
        have HW7 := Lib.hid hW
        clear hW
        go_wp2_with fail
        refine from_table tab_sums8 (by kernel_rfl) (by kernel_rfl) (by kernel_rfl) (by kernel_rfl) fun hTab => ?_
        refine from_gen (fun u => At u w1.heap.size 24 [.int .i64 (a), .int .i64 (b), .int .i64 (c), .int .i64 (d)] ∧ Four u g8 o8 m2 k2 m2 k2 ∧ Below w7.heap.size w7 u) ?_ ?_
        · exact ⟨HW7.out.1, HW7.out.2.1, HW7.out.2.2.drew⟩
        intro u hW
        -- operation 0 alone
        refine from_one' hTab 0 (by kernel_rfl) ?_
        have HW := Lib.hid hW
        clear hW
        refine wpOp_step rfl fun K hK => ?_
        go_simp
        refine hK _ _ ?_
        clear hK K
        have hW := HW.out
        clear HW
        -- operation 1 alone
        refine from_one' hTab 1 (by kernel_rfl) ?_
        have HW := Lib.hid hW
        clear hW
        refine wpOp_step rfl fun K hK => ?_
        go_simp
        refine hK _ _ ?_
        clear hK K
        have hW := HW.out
        clear HW
        -- operation 2 alone
        refine from_one' hTab 2 (by kernel_rfl) ?_
        have HW := Lib.hid hW
        clear hW
        refine wpOp_step rfl fun K hK => ?_
        go_simp
        refine hK _ _ ?_
        clear hK K
        have hW := HW.out
        clear HW
        -- operation 3 alone
        refine from_one' hTab 3 (by kernel_rfl) ?_
        have HW := Lib.hid hW
        clear hW
        refine wpOp_step rfl fun K hK => ?_
        go_simp
        refine hK _ _ ?_
        clear hK K
        have hW := HW.out
        clear HW
        -- operation 4 alone
        refine from_one' hTab 4 (by kernel_rfl) ?_
        have HW := Lib.hid hW
        clear hW
        refine wpOp_step rfl fun K hK => ?_
        go_simp
        refine hK _ _ ?_
        clear hK K
        have hW := HW.out
        clear HW
        -- operation 5 alone
        refine from_one' hTab 5 (by kernel_rfl) ?_
        have HW := Lib.hid hW
        clear hW
        refine wpOp_step rfl fun K hK => ?_
        go_simp
        refine hK _ _ ?_
        clear hK K
        have hW := HW.out
        clear HW
        -- operation 6 alone
        refine from_one' hTab 6 (by kernel_rfl) ?_
        have HW := Lib.hid hW
        clear hW
        refine wpOp_step rfl fun K hK => ?_
        go_simp
        refine hK _ _ ?_
        clear hK K
        have hW := HW.out
        clear HW
        -- operation 7 alone
        refine from_one' hTab 7 (by kernel_rfl) ?_
        have HW := Lib.hid hW
        clear hW
        refine wpOp_step rfl fun K hK => ?_
        go_simp
        refine hK _ _ ?_
        clear hK K
        have hW := HW.out
        clear HW
        -- operations 8 to 13
        refine from_block' hTab 8 14 (by decide) (by kernel_rfl)
          (fun L a' u => ∃ v86 v87 v88 v89 v90 v91 : Value, a' = ⟨#[Value.slice A n c0, .int .i64 x, .int .i64 y, .int .i64 dx, .int .i64 dy, undef, undef, undef, undef, undef, .bool false, .pointer (some ⟨w1.heap.size, 0, none⟩), .slice (some ⟨g7, o7, none⟩) 1 cp7, .bool false, .slice (some ⟨g8, o8, none⟩) 2 c8, .bool false, Value.slice A n c0, .agg #[.int .i64 a, .int .i64 b, .int .i64 c, .int .i64 d], .agg #[.int .i64 a, .int .i64 b, .int .i64 c, .int .i64 d], .slice (some ⟨g2, 0, none⟩) 4 4, .bool true, .bool false, .bool false, .agg #[.int .i64 a, .int .i64 b, .int .i64 c, .int .i64 d], .slice (some ⟨g4, 0, none⟩) 4 4, .bool true, .bool false, .bool false, .bool false, .int .i64 x, .int .i64 y, .int .i64 dx, .int .i64 dy, .slice (some ⟨w5.heap.size, 0, none⟩) 4 4, .bool true, .bool false, .bool false, .tuple #[.slice (some ⟨g7, o7, none⟩) 1 cp7, .bool false], .int .i64 x, .int .i64 y, .agg #[.int .i64 x, .int .i64 y], .slice (some ⟨w6.heap.size, 0, none⟩) 1 1, .agg #[.int .i64 a, .int .i64 b, .int .i64 c, .int .i64 d], .tuple #[.slice (some ⟨g7, o7, none⟩) 1 cp7, .bool false], .slice (some ⟨g7, o7, none⟩) 1 cp7, .bool false, .bool false, .bool false, .slice (some ⟨g7, o7, none⟩) 1 cp7, .int .i64 1, .bool false, .bool false, .tuple #[.slice (some ⟨g8, o8, none⟩) 2 c8, .bool false], .int .i64 x, .int .i64 dx, .int .i64 (x + dx), .int .i64 y, .int .i64 dy, .int .i64 (y + dy), .agg #[.int .i64 (x + dx), .int .i64 (y + dy)], .slice (some ⟨g7, o7, none⟩) 1 cp7, .pointer (some ⟨g7, o7, none⟩), .pointer (some ⟨g7, o7, none⟩), .int .i64 m, .int .i64 dx, .int .i64 (m + dx), .slice (some ⟨g7, o7, none⟩) 1 cp7, .pointer (some ⟨g7, o7, none⟩), .pointer (some ⟨g7, o7 + 1, none⟩), .int .i64 k, .int .i64 dy, .int .i64 (k + dy), .agg #[.int .i64 (m + dx), .int .i64 (k + dy)], .slice (some ⟨g73, 0, none⟩) 2 2, .agg #[.int .i64 a, .int .i64 b, .int .i64 c, .int .i64 d], .tuple #[.slice (some ⟨g8, o8, none⟩) 2 c8, .bool false], .slice (some ⟨g8, o8, none⟩) 2 c8, .bool false, .bool false, .bool true, .bool true, .slice (some ⟨g8, o8, none⟩) 2 c8, .int .i64 2, .bool true, .bool true, .bool true, v86, v87, v88, v89, v90, v91, undef, undef, undef, undef, undef, undef, undef, undef, undef, undef, undef, undef, undef, undef, undef], []⟩ ∧
            Hid (L 8 = true → v86 = .slice (some ⟨g8, o8, none⟩) 2 c8) ∧ Hid (L 9 = true → v87 = .pointer (some ⟨g8, o8, none⟩)) ∧ Hid (L 10 = true → v88 = .agg #[.int .i64 m2, .int .i64 k2]) ∧ Hid (L 11 = true → v89 = .slice (some ⟨g8, o8, none⟩) 2 c8) ∧ Hid (L 12 = true → v90 = .pointer (some ⟨g8, o8 + 2, none⟩)) ∧ Hid (L 13 = true → v91 = .agg #[.int .i64 m2, .int .i64 k2]) ∧ (At u w1.heap.size 24 [.int .i64 (a), .int .i64 (b), .int .i64 (c), .int .i64 (d)] ∧ Four u g8 o8 m2 k2 m2 k2 ∧ Below w7.heap.size w7 u)) ?_ ?_ ?_
        · exact ⟨_, _, _, _, _, _, rfl, (Lib.hid fun h => by cases h), (Lib.hid fun h => by cases h), (Lib.hid fun h => by cases h), (Lib.hid fun h => by cases h), (Lib.hid fun h => by cases h), (Lib.hid fun h => by cases h), hW⟩
        · clear hW
          intro L a' u i hi1 hi2 hI hL hd
          obtain ⟨v86, v87, v88, v89, v90, v91, rfl, k8, k9, k10, k11, k12, k13, hW⟩ := hI
          obtain rfl | rfl | rfl | rfl | rfl | rfl := (show ∀ i : Nat, 8 ≤ i → i < 14 → (i = 8 ∨ i = 9 ∨ i = 10 ∨ i = 11 ∨ i = 12 ∨ i = 13) by omega) i hi1 hi2
          · -- operation 8
            have HW := Lib.hid hW
            clear hW hL hd hi1 hi2
            refine wpOp_step rfl fun K hK => ?_
            go_simp
            refine hK _ _ ⟨_, _, _, _, _, _, rfl, (Lib.hid fun _ => rfl), k9, k10, k11, k12, k13, HW.out⟩
          · -- operation 9
            obtain rfl := k8.out (hd 8 (by decide))
            have HW := Lib.hid hW
            clear hW hL hd hi1 hi2
            refine wpOp_step rfl fun K hK => ?_
            go_simp
            refine hK _ _ ⟨_, _, _, _, _, _, rfl, k8, (Lib.hid fun _ => rfl), k10, k11, k12, k13, HW.out⟩
          · -- operation 10
            obtain rfl := k9.out (hd 9 (by decide))
            obtain ⟨c0, c1, c2, c3⟩ := hW.2.1.2
            have HW := Lib.hid hW
            clear hW hL hd hi1 hi2
            refine wpOp_step rfl fun K hK => ?_
            go_simp
            refine hK _ _ ⟨_, _, _, _, _, _, rfl, k8, k9, (Lib.hid fun _ => rfl), k11, k12, k13, HW.out⟩
          · -- operation 11
            have HW := Lib.hid hW
            clear hW hL hd hi1 hi2
            refine wpOp_step rfl fun K hK => ?_
            go_simp
            refine hK _ _ ⟨_, _, _, _, _, _, rfl, k8, k9, k10, (Lib.hid fun _ => rfl), k12, k13, HW.out⟩
          · -- operation 12
            obtain rfl := k11.out (hd 11 (by decide))
            have HW := Lib.hid hW
            clear hW hL hd hi1 hi2
            refine wpOp_step rfl fun K hK => ?_
            go_simp
            refine hK _ _ ⟨_, _, _, _, _, _, rfl, k8, k9, k10, k11, (Lib.hid fun _ => rfl), k13, HW.out⟩
          · -- operation 13
            obtain rfl := k12.out (hd 12 (by decide))
            obtain ⟨c0, c1, c2, c3⟩ := hW.2.1.2
            have HW := Lib.hid hW
            clear hW hL hd hi1 hi2
            refine wpOp_step rfl fun K hK => ?_
            go_simp
            refine hK _ _ ⟨_, _, _, _, _, _, rfl, k8, k9, k10, k11, k12, (Lib.hid fun _ => rfl), HW.out⟩
        clear hW
        clear u
        intro L a' u hI hall
        obtain ⟨v86, v87, v88, v89, v90, v91, rfl, k8, k9, k10, k11, k12, k13, hW⟩ := hI
        obtain rfl := k8.out (hall 8 (by decide))
        obtain rfl := k9.out (hall 9 (by decide))
        obtain rfl := k10.out (hall 10 (by decide))
        obtain rfl := k11.out (hall 11 (by decide))
        obtain rfl := k12.out (hall 12 (by decide))
        obtain rfl := k13.out (hall 13 (by decide))
        clear k8 k9 k10 k11 k12 k13 hall L
        -- operation 14 alone
        refine from_one' hTab 14 (by kernel_rfl) ?_
        have HW := Lib.hid hW
        clear hW
        refine wpOp_step rfl fun K hK => ?_
        go_simp
        refine hK _ _ ?_
        clear hK K
        have hW := HW.out
        clear HW
        -- operation 15 alone
        refine from_one' hTab 15 (by kernel_rfl) ?_
        have HW := Lib.hid hW
        clear hW
        refine wpOp_step rfl fun K hK => ?_
        go_simp
        refine hK _ _ ?_
        clear hK K
        have hW := HW.out
        clear HW
        -- operation 16 alone
        refine from_one' hTab 16 (by kernel_rfl) ?_
        have HW := Lib.hid hW
        clear hW
        refine wpOp_step rfl fun K hK => ?_
        go_simp
        refine hK _ _ ?_
        clear hK K
        have hW := HW.out
        clear HW
        -- operations 17 to 26
        refine from_block' hTab 17 27 (by decide) (by kernel_rfl)
          (fun L a' u => ∃ v95 v96 v97 v98 v99 v100 v101 v102 v103 v104 : Value, a' = ⟨#[Value.slice A n c0, .int .i64 x, .int .i64 y, .int .i64 dx, .int .i64 dy, undef, undef, undef, undef, undef, .bool false, .pointer (some ⟨w1.heap.size, 0, none⟩), .slice (some ⟨g7, o7, none⟩) 1 cp7, .bool false, .slice (some ⟨g8, o8, none⟩) 2 c8, .bool false, Value.slice A n c0, .agg #[.int .i64 a, .int .i64 b, .int .i64 c, .int .i64 d], .agg #[.int .i64 a, .int .i64 b, .int .i64 c, .int .i64 d], .slice (some ⟨g2, 0, none⟩) 4 4, .bool true, .bool false, .bool false, .agg #[.int .i64 a, .int .i64 b, .int .i64 c, .int .i64 d], .slice (some ⟨g4, 0, none⟩) 4 4, .bool true, .bool false, .bool false, .bool false, .int .i64 x, .int .i64 y, .int .i64 dx, .int .i64 dy, .slice (some ⟨w5.heap.size, 0, none⟩) 4 4, .bool true, .bool false, .bool false, .tuple #[.slice (some ⟨g7, o7, none⟩) 1 cp7, .bool false], .int .i64 x, .int .i64 y, .agg #[.int .i64 x, .int .i64 y], .slice (some ⟨w6.heap.size, 0, none⟩) 1 1, .agg #[.int .i64 a, .int .i64 b, .int .i64 c, .int .i64 d], .tuple #[.slice (some ⟨g7, o7, none⟩) 1 cp7, .bool false], .slice (some ⟨g7, o7, none⟩) 1 cp7, .bool false, .bool false, .bool false, .slice (some ⟨g7, o7, none⟩) 1 cp7, .int .i64 1, .bool false, .bool false, .tuple #[.slice (some ⟨g8, o8, none⟩) 2 c8, .bool false], .int .i64 x, .int .i64 dx, .int .i64 (x + dx), .int .i64 y, .int .i64 dy, .int .i64 (y + dy), .agg #[.int .i64 (x + dx), .int .i64 (y + dy)], .slice (some ⟨g7, o7, none⟩) 1 cp7, .pointer (some ⟨g7, o7, none⟩), .pointer (some ⟨g7, o7, none⟩), .int .i64 m, .int .i64 dx, .int .i64 (m + dx), .slice (some ⟨g7, o7, none⟩) 1 cp7, .pointer (some ⟨g7, o7, none⟩), .pointer (some ⟨g7, o7 + 1, none⟩), .int .i64 k, .int .i64 dy, .int .i64 (k + dy), .agg #[.int .i64 (m + dx), .int .i64 (k + dy)], .slice (some ⟨g73, 0, none⟩) 2 2, .agg #[.int .i64 a, .int .i64 b, .int .i64 c, .int .i64 d], .tuple #[.slice (some ⟨g8, o8, none⟩) 2 c8, .bool false], .slice (some ⟨g8, o8, none⟩) 2 c8, .bool false, .bool false, .bool true, .bool true, .slice (some ⟨g8, o8, none⟩) 2 c8, .int .i64 2, .bool true, .bool true, .bool true, .slice (some ⟨g8, o8, none⟩) 2 c8, .pointer (some ⟨g8, o8, none⟩), .agg #[.int .i64 m2, .int .i64 k2], .slice (some ⟨g8, o8, none⟩) 2 c8, .pointer (some ⟨g8, o8 + 2, none⟩), .agg #[.int .i64 m2, .int .i64 k2], .bool true, .bool true, .bool true, v95, v96, v97, v98, v99, v100, v101, v102, v103, v104, undef, undef], []⟩ ∧
            Hid (L 17 = true → v95 = .agg #[.int .i64 a, .int .i64 b, .int .i64 c, .int .i64 d]) ∧ Hid (L 18 = true → N4 u v96 a b c d) ∧ Hid (L 19 = true → v97 = .slice (some ⟨g8, o8, none⟩) 2 c8) ∧ Hid (L 20 = true → v98 = .pointer (some ⟨g8, o8, none⟩)) ∧ Hid (L 21 = true → v99 = .pointer (some ⟨g8, o8, none⟩)) ∧ Hid (L 22 = true → v100 = .int .i64 m2) ∧ Hid (L 23 = true → v101 = .slice (some ⟨g8, o8, none⟩) 2 c8) ∧ Hid (L 24 = true → v102 = .pointer (some ⟨g8, o8, none⟩)) ∧ Hid (L 25 = true → v103 = .pointer (some ⟨g8, o8 + 1, none⟩)) ∧ Hid (L 26 = true → v104 = .int .i64 k2) ∧ (At u w1.heap.size 24 [.int .i64 (a), .int .i64 (b), .int .i64 (c), .int .i64 (d)] ∧ Four u g8 o8 m2 k2 m2 k2 ∧ Below w7.heap.size w7 u)) ?_ ?_ ?_
        · exact ⟨_, _, _, _, _, _, _, _, _, _, rfl, (Lib.hid fun h => by cases h), (Lib.hid fun h => by cases h), (Lib.hid fun h => by cases h), (Lib.hid fun h => by cases h), (Lib.hid fun h => by cases h), (Lib.hid fun h => by cases h), (Lib.hid fun h => by cases h), (Lib.hid fun h => by cases h), (Lib.hid fun h => by cases h), (Lib.hid fun h => by cases h), hW⟩
        · clear hW
          intro L a' u i hi1 hi2 hI hL hd
          obtain ⟨v95, v96, v97, v98, v99, v100, v101, v102, v103, v104, rfl, k17, k18, k19, k20, k21, k22, k23, k24, k25, k26, hW⟩ := hI
          obtain rfl | rfl | rfl | rfl | rfl | rfl | rfl | rfl | rfl | rfl := (show ∀ i : Nat, 17 ≤ i → i < 27 → (i = 17 ∨ i = 18 ∨ i = 19 ∨ i = 20 ∨ i = 21 ∨ i = 22 ∨ i = 23 ∨ i = 24 ∨ i = 25 ∨ i = 26) by omega) i hi1 hi2
          · -- operation 17
            obtain ⟨c0, c1, c2, c3⟩ := hW.1.four.1
            have HW := Lib.hid hW
            clear hW hL hd hi1 hi2
            refine wpOp_step rfl fun K hK => ?_
            go_simp
            refine hK _ _ ⟨_, _, _, _, _, _, _, _, _, _, rfl, (Lib.hid fun _ => rfl), k18, k19, k20, k21, k22, k23, k24, k25, k26, HW.out⟩
          · -- operation 18
            obtain rfl := k17.out (hd 17 (by decide))
            have HW := Lib.hid hW
            clear hW hL hd hi1 hi2
            refine wpOp_step rfl fun K hK => ?_
            go_simp
            go_at_call 19
            refine (numbers_n4 _ _ _ _ _).mono ?_
            rintro _ w' ⟨v, rfl, ho, hb⟩
            refine hK _ _ ⟨_, _, _, _, _, _, _, _, _, _, rfl, k17, (Lib.hid fun _ => ho), k19, k20, k21, k22, k23, k24, k25, k26, ⟨HW.out.1.by hb, HW.out.2.1.by hb, HW.out.2.2.trans (hb.mono HW.out.2.2.size)⟩⟩
          · -- operation 19
            have HW := Lib.hid hW
            clear hW hL hd hi1 hi2
            refine wpOp_step rfl fun K hK => ?_
            go_simp
            refine hK _ _ ⟨_, _, _, _, _, _, _, _, _, _, rfl, k17, k18, (Lib.hid fun _ => rfl), k20, k21, k22, k23, k24, k25, k26, HW.out⟩
          · -- operation 20
            obtain rfl := k19.out (hd 19 (by decide))
            have HW := Lib.hid hW
            clear hW hL hd hi1 hi2
            refine wpOp_step rfl fun K hK => ?_
            go_simp
            refine hK _ _ ⟨_, _, _, _, _, _, _, _, _, _, rfl, k17, k18, k19, (Lib.hid fun _ => rfl), k21, k22, k23, k24, k25, k26, HW.out⟩
          · -- operation 21
            obtain rfl := k20.out (hd 20 (by decide))
            have HW := Lib.hid hW
            clear hW hL hd hi1 hi2
            refine wpOp_step rfl fun K hK => ?_
            go_simp
            refine hK _ _ ⟨_, _, _, _, _, _, _, _, _, _, rfl, k17, k18, k19, k20, (Lib.hid fun _ => rfl), k22, k23, k24, k25, k26, HW.out⟩
          · -- operation 22
            obtain rfl := k21.out (hd 21 (by decide))
            obtain ⟨c0, c1, c2, c3⟩ := hW.2.1.2
            have HW := Lib.hid hW
            clear hW hL hd hi1 hi2
            refine wpOp_step rfl fun K hK => ?_
            go_simp
            refine hK _ _ ⟨_, _, _, _, _, _, _, _, _, _, rfl, k17, k18, k19, k20, k21, (Lib.hid fun _ => rfl), k23, k24, k25, k26, HW.out⟩
          · -- operation 23
            have HW := Lib.hid hW
            clear hW hL hd hi1 hi2
            refine wpOp_step rfl fun K hK => ?_
            go_simp
            refine hK _ _ ⟨_, _, _, _, _, _, _, _, _, _, rfl, k17, k18, k19, k20, k21, k22, (Lib.hid fun _ => rfl), k24, k25, k26, HW.out⟩
          · -- operation 24
            obtain rfl := k23.out (hd 23 (by decide))
            have HW := Lib.hid hW
            clear hW hL hd hi1 hi2
            refine wpOp_step rfl fun K hK => ?_
            go_simp
            refine hK _ _ ⟨_, _, _, _, _, _, _, _, _, _, rfl, k17, k18, k19, k20, k21, k22, k23, (Lib.hid fun _ => rfl), k25, k26, HW.out⟩
          · -- operation 25
            obtain rfl := k24.out (hd 24 (by decide))
            have HW := Lib.hid hW
            clear hW hL hd hi1 hi2
            refine wpOp_step rfl fun K hK => ?_
            go_simp
            refine hK _ _ ⟨_, _, _, _, _, _, _, _, _, _, rfl, k17, k18, k19, k20, k21, k22, k23, k24, (Lib.hid fun _ => rfl), k26, HW.out⟩
          · -- operation 26
            obtain rfl := k25.out (hd 25 (by decide))
            obtain ⟨c0, c1, c2, c3⟩ := hW.2.1.2
            have HW := Lib.hid hW
            clear hW hL hd hi1 hi2
            refine wpOp_step rfl fun K hK => ?_
            go_simp
            refine hK _ _ ⟨_, _, _, _, _, _, _, _, _, _, rfl, k17, k18, k19, k20, k21, k22, k23, k24, k25, (Lib.hid fun _ => rfl), HW.out⟩
        clear hW
        clear u
        intro L a' u hI hall
        obtain ⟨v95, v96, v97, v98, v99, v100, v101, v102, v103, v104, rfl, k17, k18, k19, k20, k21, k22, k23, k24, k25, k26, hW⟩ := hI
        obtain rfl := k17.out (hall 17 (by decide))
        have x18 := k18.out (hall 18 (by decide))
        obtain rfl := k19.out (hall 19 (by decide))
        obtain rfl := k20.out (hall 20 (by decide))
        obtain rfl := k21.out (hall 21 (by decide))
        obtain rfl := k22.out (hall 22 (by decide))
        obtain rfl := k23.out (hall 23 (by decide))
        obtain rfl := k24.out (hall 24 (by decide))
        obtain rfl := k25.out (hall 25 (by decide))
        obtain rfl := k26.out (hall 26 (by decide))
        clear k17 k18 k19 k20 k21 k22 k23 k24 k25 k26 hall L
        -- operation 27 alone
        refine from_one' hTab 27 (by kernel_rfl) ?_
        have HW := Lib.hid hW
        have Hx18 := Lib.hid x18
        clear hW x18
        refine wpOp_step rfl fun K hK => ?_
        go_simp
        go_at_call 22
        refine (has_n4 Hx18.out HIN.out).mono ?_
        rintro _ w' ⟨rfl, hb⟩
        refine hK _ _ ?_
        clear hK K
        refine from_gen (fun u => (At u w1.heap.size 24 [.int .i64 (a), .int .i64 (b), .int .i64 (c), .int .i64 (d)] ∧ Four u g8 o8 m2 k2 m2 k2 ∧ Below w7.heap.size w7 u) ∧ (N4 u v96 a b c d)) (⟨⟨HW.out.1.by hb, HW.out.2.1.by hb, HW.out.2.2.trans (hb.mono HW.out.2.2.size)⟩, (Hx18.out.by hb)⟩) ?_
        clear hb HW Hx18
        intro u hW
        obtain ⟨hW, x18⟩ := hW
        -- operation 28 alone
        refine from_one' hTab 28 (by kernel_rfl) ?_
        have HW := Lib.hid hW
        have Hx18 := Lib.hid x18
        clear hW x18
        refine wpOp_step rfl fun K hK => ?_
        go_simp
        refine hK _ _ ?_
        clear hK K
        have hW := HW.out
        have x18 := Hx18.out
        clear HW Hx18
        -- operation 29 alone
        refine from_one' hTab 29 (by kernel_rfl) ?_
        have HW := Lib.hid hW
        have Hx18 := Lib.hid x18
        clear hW x18
        refine wpOp_step rfl fun K hK => ?_
        go_simp
        refine hK _ _ ?_
        clear hK K
        have hW := HW.out
        have x18 := Hx18.out
        clear HW Hx18
        refine from_end' hTab 30 (by kernel_rfl) ?_
        clear hTab
        have HW := Lib.hid hW
        clear hW
        go_wp2
        go_ret
        exact ⟨rfl, HB7.out.2.2.trans (HW.out.2.2.mono HB7.out.2.2.size)⟩
end Go.Proofs.Ytojplcchoffapaa
