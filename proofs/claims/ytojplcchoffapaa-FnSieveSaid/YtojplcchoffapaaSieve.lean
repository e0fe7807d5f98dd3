/- The walk of FnSieve. Conditions: none. -/
import Derived.Test.YtojplcchoffapaaPlainSieve
import Derived.Test.YtojplcchoffapaaModSums
import Derived.Test.YtojplcchoffapaaJoin
import Derived.Test.YtojplcchoffapaaAppend
import Derived.Test.YtojplcchoffapaaCut
import Derived.Test.YtojplcchoffapaaSpots
namespace Go.Proofs.Ytojplcchoffapaa
open Go.RowKit

def smB (r : R) : Bool := allB 8 [r.x0, r.y0, r.x1, r.y1]
theorem smB_iff (r : R) : smB r = true ↔ Sm r := by
  simp only [smB, allB, List.all_cons, List.all_nil, Bool.and_true, Bool.and_eq_true, okB_iff, Sm]
/-- the points of the first m of the grid's columns; the first m of a column -/
def colN (l : List R) (m : Nat) : Int := sumN (fun i => sumN (fun j => ind (l.any fun r => r.has (pt i) (pt j))) 16) m
def rowN (l : List R) (i m : Nat) : Int := sumN (fun j => ind (l.any fun r => r.has (pt i) (pt j))) m
theorem sumN_le {f : Nat → Int} {B : Int} (n : Nat) (h : ∀ i, i < n → -B ≤ f i ∧ f i ≤ B) : -(B * n) ≤ sumN f n ∧ sumN f n ≤ B * n := by
  induction n with
  | zero => simp [sumN]
  | succ n ih =>
    have h1 := ih fun i hi => h i (by omega)
    have h2 := h n (by omega)
    simp only [sumN]
    have e : B * ((n + 1 : Nat) : Int) = B * n + B := by rw [Int.natCast_add, Int.mul_add]; simp
    rw [e]
    omega
theorem ind_le (b : Bool) : -1 ≤ ind b ∧ ind b ≤ 1 := by cases b <;> simp [ind]
theorem rowN_le (l : List R) (i m : Nat) : -(m : Int) ≤ rowN l i m ∧ rowN l i m ≤ m := by
  have := sumN_le (f := fun j => ind (l.any fun r => r.has (pt i) (pt j))) (B := 1) m fun j _ => ind_le _
  unfold rowN
  omega
theorem colN_le (l : List R) (m : Nat) : -(16 * (m : Int)) ≤ colN l m ∧ colN l m ≤ 16 * m := by
  have := sumN_le (f := fun i => sumN (fun j => ind (l.any fun r => r.has (pt i) (pt j))) 16) (B := 16) m fun i _ => by
    have := rowN_le l i 16
    unfold rowN at this
    omega
  unfold colN
  omega
theorem rowN_succ (l : List R) (i m : Nat) : rowN l i (m + 1) = rowN l i m + ind (l.any fun r => r.has (pt i) (pt m)) := rfl
theorem colN_succ (l : List R) (m : Nat) : colN l (m + 1) = colN l m + rowN l m 16 := rfl
theorem area_le {r : R} (h : Sm r) : 0 ≤ areaR r ∧ areaR r ≤ 256 := by
  obtain ⟨h1, h2, h3, h4⟩ := h
  unfold areaR
  by_cases he : r.empty = true
  · rw [if_pos he]; omega
  · rw [if_neg he]
    simp only [R.empty, emptyB, Bool.not_eq_true, Bool.or_eq_false_iff, decide_eq_false_iff_not] at he
    have h5 := Int.mul_nonneg (show 0 ≤ r.x1 - r.x0 by omega) (show 0 ≤ r.y1 - r.y0 by omega)
    have h6 : (r.x1 - r.x0) * (r.y1 - r.y0) ≤ 16 * 16 := Int.mul_le_mul (by omega) (by omega) (by omega) (by omega)
    omega
theorem sgn_or (n : Nat) (x : Int) : (n % 2 = 0 ∧ sgn n * x = -x) ∨ (n % 2 = 1 ∧ sgn n * x = x) := by
  unfold sgn
  rcases Nat.mod_two_eq_zero_or_one n with h | h
  · left; rw [if_pos h]; omega
  · right; rw [if_neg (by omega)]; omega
theorem sums_le (l : List R) (hl : ∀ r ∈ l, Sm r) (m : Nat) : -(256 * (m : Int)) ≤ sums l m ∧ sums l m ≤ 256 * m :=
  sumN_le m fun i _ => by
    have h1 := area_le (acc_sm (pick l (i + 1)) fun r hr => hl r (pick_mem l _ hr))
    rcases sgn_or (pick l (i + 1)).length (areaR (acc inter (pick l (i + 1)))) with h | h <;> (rw [h.2]; omega)
theorem tell_sized (a b c d : Int) (em : Bool) (sx sy : Int) (h1 : R.empty ⟨a, b, c, d⟩ = em) (h2 : wrap64 (c - a) = sx) (h3 : wrap64 (d - b) = sy) : ∃ t0 t1 t2 t4 : Bool, ∀ w : World,
    Calls Try.prog 16 #[.agg #[.int .i64 0, .int .i64 0], .agg #[.int .i64 a, .int .i64 b, .int .i64 c, .int .i64 d], .agg #[.int .i64 0, .int .i64 0, .int .i64 0, .int .i64 0]] w fun x w' => x = .returned (.agg #[.bool t0, .bool t1, .bool t2, .bool em, .bool t4, .int .i64 sx, .int .i64 sy]) ∧ Below w.heap.size w w' := by
  subst h1 h2 h3
  exact ⟨_, _, _, _, fun w => tell_any 0 0 a b c d 0 0 0 0 w⟩
theorem rect_nil (u : World) : Calls Try.prog 15 #[.slice none 0 0] u (RetR ⟨0, 0, 0, 0⟩ u) := lrect_any none 0 0 [] u ⟨rfl, fun h => absurd h (by omega)⟩
theorem and_one_small : ∀ E : Fin 32, bits BinOp.and IntKind.i64 ((E.val : Nat) : Int) 1 = (((E.val % 2) : Nat) : Int) := by decide
theorem bit_of (s q : Nat) (hs : s < 32) (r : Int) (hr : (((s / 2 ^ q % 2) : Nat) : Int) = r) : bits BinOp.and IntKind.i64 ((s : Int) / 2 ^ q) 1 = r := by
  rw [← hr]
  have h1 : ((s : Int) / 2 ^ q) = ((s / 2 ^ q : Nat) : Int) := by simp
  have h2 : s / 2 ^ q < 32 := Nat.lt_of_le_of_lt (Nat.div_le_self _ _) hs
  rw [h1]
  exact and_one_small ⟨s / 2 ^ q, h2⟩

def tab_sieve37 : List (List Nat) := [[], [], [], [2], [2, 3], [1, 2, 3, 4], [1, 2, 3, 4, 5], [], [0, 1, 2, 3, 4, 5, 6, 7], [], [0, 1, 2, 3, 4, 5, 6, 7, 8, 9]]
set_option maxRecDepth 10000 in
set_option maxHeartbeats 8000000 in
theorem sieve_walk (A : Option Addr) (n c : Nat) (z : List (List Int)) (w : World) (h : RowsAt w A n z) :
    Calls Try.prog 14 #[.slice A n c] w fun e w' => e = .returned (.bool true) ∧ Below w.heap.size w w' := by
  have H := Lib.hid h
  clear h
  go_enter Try.func14, Try.ntmps14
  by_cases h5 : 5 < n
  · go_wp2
    go_ret
    exact ⟨rfl, Below.refl _ _⟩
  have b5 : decide ((5 : Int) < (n : Int)) = false := decide_eq_false (by omega)
  have R1 := fun u hu => rects_any A n c z u hu (by omega)
  obtain ⟨rs, hrs⟩ : ∃ rs, z.map rectOf = rs := ⟨_, rfl⟩
  have hlen : rs.length ≤ 5 := by rw [← hrs, List.length_map, H.out.1]; omega
  rw [hrs] at R1
  have HR := Lib.hid R1
  clear R1 hrs h5
  go_wp2_with fail
  refine (HR.out _ H.out).mono ?_
  rintro _ w1 ⟨v3, rfl, ho3, hb1⟩
  obtain ⟨A3, c3, rfl, hR3⟩ := ho3.form
  obtain ⟨M, hM⟩ : ∃ M, rs.length = M := ⟨_, rfl⟩
  rw [hM] at hlen ⊢
  have HM := Lib.hid hM
  have HL := Lib.hid hlen
  have HR3 := Lib.hid hR3
  have HB1 := Lib.hid hb1
  clear ho3 hR3 hb1 HR H hM hlen
  go_wp2
  go_loopw [26] (fun i wr => ∃ k : Nat, k ≤ M ∧ i = .int .i64 k ∧ (rs.take k).all smB = true ∧ Below w1.heap.size w1 wr) (fun i _ => M - (intOf i).toNat)
  case atStart => exact ⟨0, Nat.zero_le _, rfl, by simp, Below.refl _ _⟩
  case round =>
    obtain ⟨k, hk, rfl, hall, hbel⟩ := hrel
    by_cases hlt : k < M
    · obtain ⟨g, o, rfl, hg, y0, y1, y2, y3⟩ := (HR3.out.by hbel).at_ (i := k) (by rw [HM.out]; exact hlt)
      have hs := all_take_succ smB rs k (by rw [HM.out]; exact hlt)
      generalize rs[k]'(by rw [HM.out]; exact hlt) = r at y0 y1 y2 y3 hs
      obtain ⟨p, q, s, t⟩ := r
      dsimp only at y0 y1 y2 y3
      rw [hall, Bool.true_and] at hs
      obtain ⟨sb, hsb⟩ : ∃ sb, allB 8 [p, q, s, t] = sb := ⟨_, rfl⟩
      have HSB := Lib.hid hsb
      have HS := Lib.hid hs
      have HB := Lib.hid hbel
      clear hs hbel hall hsb
      go_wp2_with fail
      clear y0 y1 y2 y3
      refine (numbers_any _ _ _ _ _).mono ?_
      rintro _ w2 ⟨g2, rfl, hg2, hb2⟩
      have hS := Small_any 8 _ 4 4 _ w2 (At.ints (zs := [p, q, s, t]) hg2) (by omega) (by omega) (by omega)
      rw [HSB.out] at hS
      have HSC := Lib.hid hS
      have HB2 := Lib.hid ((HB.out.alloc HB.out.size (.cells #[.int .i64 p, .int .i64 q, .int .i64 s, .int .i64 t] 24)).trans (hb2.mono (by rw [size_alloc]; have := HB.out.size; omega)))
      clear hg2 hb2 hS HB
      go_wp2_with fail
      refine HSC.out.mono ?_
      rintro _ w3 ⟨rfl, hb3⟩
      have HB3 := Lib.hid (HB2.out.trans (hb3.mono HB2.out.size))
      clear hb3 HB2 HSC
      cases sb with
      | false =>
        go_wp2
        go_ret
        exact ⟨rfl, HB1.out.trans (HB3.out.mono HB1.out.size)⟩
      | true =>
        have hM5 := HL.out
        go_wp2
        go_roundw
        case rel => exact ⟨k + 1, by omega, by go_num, by rw [HS.out]; exact HSB.out, HB3.out⟩
        case measure => simp [intOf]; omega
    · obtain rfl : k = M := by omega
      have hsm : ∀ r ∈ rs, Sm r := by
        intro r hr
        rw [List.take_of_length_le (by rw [HM.out]; exact Nat.le_refl _), List.all_eq_true] at hall
        exact (smB_iff r).1 (hall r hr)
      have HSM := Lib.hid hsm
      have HB := Lib.hid (And.intro (HR3.out.by hbel) (HB1.out.trans (hbel.mono HB1.out.size)))
      clear hsm hall hbel HR3 HB1
      generalize wr = w2 at *
      go_wp2
      go_loopw [6, 7] (fun cv xv wr => ∃ i : Nat, i ≤ 16 ∧ cv = .int .i64 (colN rs i) ∧ xv = .int .i64 (pt i) ∧ Below w2.heap.size w2 wr) (fun _ xv _ => (8 - intOf xv).toNat)
      case atStart => exact ⟨0, by omega, rfl, rfl, Below.refl _ _⟩
      case round =>
        obtain ⟨i, hi, rfl, rfl, hbel⟩ := hrel
        by_cases hlt : i < 16
        · have hX : pt i < 8 := by unfold pt; omega
          have HBI := Lib.hid hbel
          clear hbel
          have hXw : IntKind.i64.wrap (pt i + 1) = pt (i + 1) := by rw [IntWalk.i64_in _ (by unfold pt; omega)]; unfold pt; omega
          go_wp2
          generalize wr = wi at *
          go_loopw [6, 8] (fun cv xv wr => ∃ j : Nat, j ≤ 16 ∧ cv = .int .i64 (colN rs i + rowN rs i j) ∧ xv = .int .i64 (pt j) ∧ Below w2.heap.size w2 wr) (fun _ xv _ => (8 - intOf xv).toNat)
          case atStart => exact ⟨0, by omega, by simp [rowN, sumN], rfl, HBI.out⟩
          case round =>
            obtain ⟨j, hj, rfl, rfl, hbel⟩ := hrel
            by_cases hltj : j < 16
            · have hY : pt j < 8 := by unfold pt; omega
              have hYw : IntKind.i64.wrap (pt j + 1) = pt (j + 1) := by rw [IntWalk.i64_in _ (by unfold pt; omega)]; unfold pt; omega
              have HBJ := Lib.hid hbel
              clear hbel
              obtain ⟨cc, hcc⟩ : ∃ cc, colN rs i + rowN rs i j = cc := ⟨_, rfl⟩
              have hccb : -272 ≤ cc ∧ cc ≤ 272 := by
                have h1 := colN_le rs i
                have h2 := rowN_le rs i j
                omega
              have HCC := Lib.hid (And.intro hcc hccb)
              rw [hcc]
              clear hcc hccb
              go_wp2
              generalize wr = wj at *
              go_loopw [6, 45] (fun cv iv wr => ∃ q : Nat, q ≤ k ∧ cv = .int .i64 cc ∧ iv = .int .i64 q ∧ (rs.take q).any (fun r => r.has (pt i) (pt j)) = false ∧ Below w2.heap.size w2 wr) (fun _ iv _ => k - (intOf iv).toNat)
              case atStart => exact ⟨0, by omega, rfl, rfl, by simp, HBJ.out⟩
              case round =>
                obtain ⟨q, hq, rfl, rfl, hany, hbel⟩ := hrel
                by_cases hltq : q < k
                · obtain ⟨g, o, rfl, hg, y0, y1, y2, y3⟩ := (HB.out.1.by hbel).at_ (i := q) (by rw [HM.out]; exact hltq)
                  have hsn := anyIn_succ rs (pt i) (pt j) q (by rw [HM.out]; exact hltq)
                  unfold anyIn at hsn
                  rw [hany, Bool.false_or] at hsn
                  have hmem : rs[q]'(by rw [HM.out]; exact hltq) ∈ rs := List.getElem_mem _
                  generalize rs[q]'(by rw [HM.out]; exact hltq) = r at y0 y1 y2 y3 hsn hmem
                  obtain ⟨p, q', s, t⟩ := r
                  dsimp only at y0 y1 y2 y3
                  obtain ⟨ib, hib⟩ : ∃ ib, inB (pt i) (pt j) p q' s t = ib := ⟨_, rfl⟩
                  have HI := Lib.hid (And.intro hbel (And.intro hsn (And.intro hmem hib)))
                  clear hbel hany hsn hmem hib
                  go_wp2_with fail
                  clear y0 y1 y2 y3
                  refine (numbers_n4 _ _ _ _ _).mono ?_
                  rintro _ w4 ⟨v4, rfl, hn4, hb4⟩
                  have HN := Lib.hid (has_n4 hn4 HI.out.2.2.2)
                  have HB4 := Lib.hid ((HI.out.1.alloc HI.out.1.size (.cells #[.int .i64 p, .int .i64 q', .int .i64 s, .int .i64 t] 24)).trans (hb4.mono (by rw [size_alloc]; have := HI.out.1.size; omega)))
                  clear hn4 hb4
                  go_wp2_with fail
                  refine HN.out.mono ?_
                  rintro _ w5 ⟨rfl, hb5⟩
                  have HB5 := Lib.hid (HB4.out.trans (hb5.mono HB4.out.size))
                  clear hb5 HB4 HN
                  cases ib with
                  | true =>
                    have hinc : IntKind.i64.wrap (cc + 1) = cc + 1 := IntWalk.i64_in _ (by have := HCC.out; omega)
                    go_wp2
                    go_roundw
                    case rel =>
                      have h1 := HCC.out.1
                      refine ⟨j + 1, by omega, ?_, rfl, HB5.out⟩
                      rw [rowN_succ, show (rs.any fun r => r.has (pt i) (pt j)) = true from List.any_eq_true.2 ⟨_, HI.out.2.2.1, HI.out.2.2.2⟩]
                      show _ = Value.int .i64 (colN rs i + (rowN rs i j + 1))
                      rw [← h1]
                      congr 1
                      omega
                    case measure =>
                      simp only [intOf]
                      unfold pt
                      omega
                  | false =>
                    have hM5 := HL.out
                    go_wp2
                    go_roundw
                    case rel => exact ⟨q + 1, by omega, rfl, by go_num, by rw [HI.out.2.1]; exact HI.out.2.2.2, HB5.out⟩
                    case measure => simp [intOf]; omega
                · obtain rfl : q = k := by omega
                  have HI := Lib.hid (And.intro hany hbel)
                  clear hany hbel
                  go_wp2
                  go_roundw
                  case rel =>
                    have h1 := HCC.out.1
                    have h2 := HI.out.1
                    rw [List.take_of_length_le (by rw [HM.out]; exact Nat.le_refl _)] at h2
                    refine ⟨j + 1, by omega, ?_, rfl, HI.out.2⟩
                    rw [rowN_succ, h2, ← h1]
                    show _ = Value.int .i64 (colN rs i + (rowN rs i j + 0))
                    congr 1
                    omega
                  case measure =>
                    simp only [intOf]
                    unfold pt
                    omega
            · obtain rfl : j = 16 := by omega
              have hY : ¬ pt 16 < 8 := by unfold pt; omega
              have HBJ := Lib.hid hbel
              clear hbel
              go_wp2
              go_roundw
              case rel => exact ⟨i + 1, by omega, by rw [colN_succ], rfl, HBJ.out⟩
              case measure =>
                simp only [intOf]
                unfold pt
                omega
        · obtain rfl : i = 16 := by omega
          have hX : ¬ pt 16 < 8 := by unfold pt; omega
          have HBI := Lib.hid (And.intro (HB.out.1.by hbel) (HB.out.2.trans (hbel.mono HB.out.2.size)))
          have hcb := colN_le rs 16
          have HCB := Lib.hid hcb
          clear hbel HB hcb
          generalize wr = wB at *
          obtain ⟨cnt, hcnt⟩ : ∃ cnt, colN rs 16 = cnt := ⟨_, rfl⟩
          have HCN := Lib.hid hcnt
          rw [hcnt]
          clear hcnt HCB
          obtain ⟨P, hP, hP1, hP2⟩ : ∃ P, 2 ^ k = P ∧ 1 ≤ P ∧ P ≤ 32 := ⟨2 ^ k, rfl, Nat.one_le_two_pow, by have := Nat.pow_le_pow_right (n := 2) (by omega) HL.out; omega⟩
          have e1 : IntKind.u64.wrap (k : Int) = (k : Int) := by
            have := HL.out
            rcases (show k = 0 ∨ k = 1 ∨ k = 2 ∨ k = 3 ∨ k = 4 ∨ k = 5 by omega) with h | h | h | h | h | h <;> (rw [h]; decide)
          have e2 : wrap64 (2 ^ min k 64) = (P : Int) := by
            have := HL.out
            rw [← hP]
            rcases (show k = 0 ∨ k = 1 ∨ k = 2 ∨ k = 3 ∨ k = 4 ∨ k = 5 by omega) with h | h | h | h | h | h <;> (rw [h, IntWalk.wrap64_in _ (by decide)]; decide)
          have HP := Lib.hid (And.intro hP (And.intro hP1 hP2))
          clear hP hP1 hP2
          go_wp2
          go_loopw [11, 12] (fun sv tv wr => ∃ s : Nat, 1 ≤ s ∧ s ≤ P ∧ sv = .int .i64 (sums rs (s - 1)) ∧ tv = .int .i64 s ∧ Below wB.heap.size wB wr) (fun _ tv _ => P - (intOf tv).toNat)
          case atStart => exact ⟨1, by omega, HP.out.2.1, rfl, rfl, Below.refl _ _⟩
          case round =>
            obtain ⟨s, hs1, hs2, rfl, rfl, hbel⟩ := hrel
            by_cases hlts : s < P
            · obtain ⟨sm, hsm⟩ : ∃ sm, sums rs (s - 1) = sm := ⟨_, rfl⟩
              rw [hsm]
              have HS := Lib.hid (And.intro hsm hbel)
              have hbelow := Below.refl wr.heap.size wr
              have HRW := Lib.hid (HBI.out.1.by hbel)
              clear hsm hbel
              go_wp2_with fail
              generalize wr = wL at *
              clear e1 e2
              go_loopw [13, 68] (fun ov iv wr => ∃ q : Nat, q ≤ k ∧ iv = .int .i64 q ∧ Own wr wL.heap.size ov (pick (rs.take q) s) ∧ Below wL.heap.size wL wr) (fun _ iv _ => k - (intOf iv).toNat)
              case atStart => exact ⟨0, by omega, rfl, own_empty _, (Below.refl _ _).alloc (Nat.le_refl _) _⟩
              case round =>
                obtain ⟨q, hq, rfl, hown, hbel⟩ := hrel
                by_cases hltq : q < k
                · obtain ⟨g, o, rfl, hg, y0, y1, y2, y3⟩ := (HRW.out.by hbel).at_ (i := q) (by rw [HM.out]; exact hltq)
                  have hsn := pick_snoc (rs.take q) (rs[q]'(by rw [HM.out]; exact hltq)) s
                  rw [← List.take_succ_eq_append_getElem (by rw [HM.out]; exact hltq), show (rs.take q).length = q by rw [List.length_take, HM.out]; omega] at hsn
                  have hll := pick_length (rs.take q) s
                  rw [List.length_take, HM.out] at hll
                  generalize rs[q]'(by rw [HM.out]; exact hltq) = r at y0 y1 y2 y3 hsn
                  obtain ⟨p0, p1, p2, p3⟩ := r
                  dsimp only at y0 y1 y2 y3
                  generalize pick (rs.take q) s = l at hsn hll hown
                  have e3 : IntKind.u64.wrap (q : Int) = (q : Int) := by
                    have := HL.out
                    rcases (show q = 0 ∨ q = 1 ∨ q = 2 ∨ q = 3 ∨ q = 4 by omega) with h | h | h | h | h <;> (rw [h]; decide)
                  have HI := Lib.hid (And.intro hown (And.intro hbel (And.intro hsn hll)))
                  clear hown hbel hsn hll
                  have hmin : min q 64 = q := Nat.min_eq_left (by have := HL.out; omega)
                  have hq1 : IntKind.i64.wrap ((q : Int) + 1) = (q : Int) + 1 := IntWalk.i64_in _ (by have := HL.out; omega)
                  by_cases hbit : s / 2 ^ q % 2 = 1
                  · have e4 : bits BinOp.and IntKind.i64 ((s : Int) / 2 ^ q) 1 = 1 := bit_of s q (by have := HP.out.2.2; omega) 1 (by rw [hbit]; rfl)
                    have HBIT := Lib.hid hbit
                    clear hbit
                    go_wp2_with (at_builtin; refine append_rect_gr rfl (.tmp 79) (.tmp 81) rfl _ wL.heap.size (wr.heap.size + 1) _ l ⟨p0, p1, p2, p3⟩ rfl ((HI.out.1.alloc _).alloc _) rfl (At.new' _ _ _ (by rw [size_alloc])) (by have := HI.out.2.2.2; have := HL.out; omega) (by have := HI.out.2.1.size; simp only [size_alloc]; omega) ?_; intro v' w5 hown5 hgr5 hbl5 hb5)
                    go_roundw
                    case rel =>
                      refine ⟨q + 1, by omega, by go_num, ?_, ((HI.out.2.1.alloc HI.out.2.1.size _).alloc (by have := HI.out.2.1.size; simp only [size_alloc]; omega) _).trans hb5⟩
                      rw [HI.out.2.2.1, if_pos HBIT.out]
                      exact hown5
                    case measure => simp [intOf]; omega
                  · have hz : s / 2 ^ q % 2 = 0 := by omega
                    have e4 : bits BinOp.and IntKind.i64 ((s : Int) / 2 ^ q) 1 = 0 := bit_of s q (by have := HP.out.2.2; omega) 0 (by rw [hz]; rfl)
                    have HBIT := Lib.hid hbit
                    clear hbit hz
                    go_wp2
                    go_roundw
                    case rel =>
                      refine ⟨q + 1, by omega, by go_num, ?_, HI.out.2.1.alloc HI.out.2.1.size _⟩
                      rw [HI.out.2.2.1, if_neg HBIT.out]
                      exact HI.out.1.alloc _
                    case measure => simp [intOf]; omega
                · obtain rfl : q = k := by omega
                  rw [List.take_of_length_le (by rw [HM.out]; exact Nat.le_refl _)] at hown
                  have hll := pick_length rs s
                  have hne := pick_ne rs s (by omega) (by rw [HM.out, HP.out.1]; exact hlts)
                  have hsub : ∀ r ∈ pick rs s, Sm r := fun r hr => HSM.out r (pick_mem rs s hr)
                  have hsu : sums rs s = sums rs (s - 1) + sgn (pick rs s).length * areaR (acc inter (pick rs s)) := by
                    obtain ⟨s', rfl⟩ : ∃ s', s = s' + 1 := ⟨s - 1, by omega⟩
                    rfl
                  have hsme := acc_sm _ hsub
                  generalize pick rs s = l at hown hll hne hsub hsu hsme
                  obtain ⟨A13, c13, rfl, hR13⟩ := hown.form
                  obtain ⟨ml, hL⟩ : ∃ ml, l.length = ml := ⟨_, rfl⟩
                  have hL0 : 0 < ml := by rw [← hL]; exact List.length_pos_iff.2 hne
                  have hL5 : ml ≤ 5 := by have := HL.out; rw [HM.out] at hll; omega
                  have hME := fun u (hu : Rects u A13 l) => meet_any A13 c13 l u hu (by omega)
                  rw [hL] at hME hsu ⊢
                  have HME := Lib.hid hME
                  have HLL := Lib.hid hL
                  have HSU := Lib.hid (And.intro hsu hsme)
                  have HI := Lib.hid (And.intro hR13 hbel)
                  clear hown hll hne hsub hsu hsme hR13 hbel hME hL
                  go_wp2_with fail
                  refine (HME.out _ HI.out.1).mono ?_
                  rintro _ w5 ⟨v16, rfl, ho16, hb5⟩
                  obtain ⟨A16, c16, rfl, hR16⟩ := ho16.form
                  rw [accs_length]
                  obtain ⟨⟨p, q', s', t'⟩, hac⟩ : ∃ r, acc inter l = r := ⟨_, rfl⟩
                  have hlast := accs_get inter l ml (ml - 1) (by omega)
                  rw [show ml - 1 + 1 = ml by omega, List.take_of_length_le (by rw [HLL.out]; exact Nat.le_refl _), hac] at hlast
                  obtain ⟨g16, o16, rfl, hg16⟩ := hR16.addr (by rw [accs_length]; omega)
                  have h4 := hR16.four (i := ml - 1) (by rw [accs_length]; omega) hlast hg16
                  have hsu := HSU.out
                  rw [hac] at hsu
                  have HS2 := Lib.hid hsu
                  have HB5 := Lib.hid (And.intro h4 (HI.out.2.trans (hb5.mono HI.out.2.size)))
                  obtain ⟨em, hem⟩ : ∃ em, R.empty ⟨p, q', s', t'⟩ = em := ⟨_, rfl⟩
                  obtain ⟨sx, hsx⟩ : ∃ sx, wrap64 (s' - p) = sx := ⟨_, rfl⟩
                  obtain ⟨sy, hsy⟩ : ∃ sy, wrap64 (t' - q') = sy := ⟨_, rfl⟩
                  obtain ⟨t0, t1, t2, t4, hT⟩ := tell_sized p q' s' t' em sx sy hem hsx hsy
                  have hsme := HSU.out.2
                  rw [hac] at hsme
                  have HT := Lib.hid hT
                  have HX := Lib.hid (And.intro hsme (And.intro hem (And.intro hsx hsy)))
                  clear ho16 hR16 hb5 hlast h4 hsu hac HI HME HSU hT hem hsx hsy hsme
                  go_wp2_with fail
                  have x1 : IntKind.i64.wrap ((ml : Int) - 1) = (ml : Int) - 1 := IntWalk.i64_in _ (by omega)
                  have x2 : 0 ≤ (ml : Int) - 1 := by omega
                  have x3 : (ml : Int) - 1 < ml := by omega
                  have x4 : ((ml : Int) - 1).toNat = ml - 1 := by omega
                  have x5 : 1 ≤ (ml : Int) := by omega
                  have x6 : 1 ≤ ml := by omega
                  refine from_table tab_sieve37 (by kernel_rfl) (by kernel_rfl) (by kernel_rfl) (by kernel_rfl) fun hTab => ?_
                  refine from_gen (fun u => Four u g16 (o16 + (ml - 1) * 4) p q' s' t' ∧ Below wL.heap.size wL u) ?_ ?_
                  · exact ⟨HB5.out.1, HB5.out.2.drew⟩
                  intro u hW
                  -- operations 0 to 9
                  refine from_block' hTab 0 10 (by decide) (by kernel_rfl)
                    (fun L a' u => ∃ v17 v91 v92 v93 v94 v95 v96 v97 v98 v99 : Value, a' = ⟨#[Value.slice A n c, undef, u2, Value.slice A3 q c3, undef, u5, .int .i64 cnt, .int .i64 (pt 16), u8, undef, u10, .int .i64 sm, .int .i64 ↑s, Value.slice A13 ml c13, u14, u15, .slice (some ⟨g16, o16, none⟩) ml c16, v17, u18, Value.slice A n c, .int .i64 ↑n, .bool false, Value.slice A n c, Value.slice A3 q c3, Value.slice A3 q c3, .int .i64 ↑q, .int .i64 ↑q, .bool false, u28, u29, u30, u31, u32, u33, u34, .int .i64 (pt 16), .bool false, u37, u38, u39, u40, u41, u42, u43, u44, u45, u46, u47, u48, u49, u50, u51, u52, u53, u54, u55, u56, .int .i64 ↑s, Value.slice A3 q c3, .int .i64 ↑q, Value.int IntKind.u64 ↑q, .int .i64 (wrap64 (2 ^ min q 64)), .bool true, u63, u64, .slice (some ⟨wL.heap.size, 0, none⟩) 0 0, Value.slice A3 q c3, .int .i64 ↑q, .int .i64 ↑q, .bool false, u70, u71, u72, u73, u74, u75, u76, u77, u78, u79, u80, u81, u82, u83, Value.slice A13 ml c13, .slice (some ⟨g16, o16, none⟩) ml c16, .slice (some ⟨g16, o16, none⟩) ml c16, .int .i64 ↑ml, Value.slice A13 ml c13, .int .i64 ↑ml, .bool false, v91, v92, v93, v94, v95, v96, v97, v98, v99, u100, u101, u102, u103, u104, u105, u106, u107, u108, u109, u110, u111, u112, u113, u114, u115, u116, u117, undef, undef, undef], []⟩ ∧
                      Hid (L 0 = true → v91 = .agg #[.int .i64 0, .int .i64 0]) ∧ Hid (L 1 = true → v92 = .slice (some ⟨g16, o16, none⟩) ml c16) ∧ Hid (L 2 = true → v93 = .slice (some ⟨g16, o16, none⟩) ml c16) ∧ Hid (L 3 = true → v94 = .int .i64 ↑ml) ∧ Hid (L 4 = true → v95 = .int .i64 (↑ml - 1)) ∧ Hid (L 5 = true → v96 = .pointer (some ⟨g16, o16 + (ml - 1) * 4, none⟩)) ∧ Hid (L 6 = true → v97 = .agg #[.int .i64 p, .int .i64 q', .int .i64 s', .int .i64 t']) ∧ Hid (L 7 = true → v98 = .agg #[.int .i64 0, .int .i64 0, .int .i64 0, .int .i64 0]) ∧ Hid (L 8 = true → v99 = .agg #[.bool t0, .bool t1, .bool t2, .bool em, .bool t4, .int .i64 sx, .int .i64 sy]) ∧ Hid (L 9 = true → ∃ g17, v17 = .pointer (some ⟨g17, 0, none⟩) ∧ wL.heap.size ≤ g17 ∧ At u g17 29 [.bool false, .bool false, .bool false, .bool false, .bool false, .int .i64 0, .int .i64 0]) ∧ (Four u g16 (o16 + (ml - 1) * 4) p q' s' t' ∧ Below wL.heap.size wL u)) ?_ ?_ ?_
                  · exact ⟨_, _, _, _, _, _, _, _, _, _, rfl, (Lib.hid fun h => by cases h), (Lib.hid fun h => by cases h), (Lib.hid fun h => by cases h), (Lib.hid fun h => by cases h), (Lib.hid fun h => by cases h), (Lib.hid fun h => by cases h), (Lib.hid fun h => by cases h), (Lib.hid fun h => by cases h), (Lib.hid fun h => by cases h), (Lib.hid fun h => by cases h), hW⟩
                  · clear hW
                    intro L a' u i hi1 hi2 hI hL hd
                    obtain ⟨v17, v91, v92, v93, v94, v95, v96, v97, v98, v99, rfl, k0, k1, k2, k3, k4, k5, k6, k7, k8, k9, hW⟩ := hI
                    obtain rfl | rfl | rfl | rfl | rfl | rfl | rfl | rfl | rfl | rfl := (show ∀ i : Nat, 0 ≤ i → i < 10 → (i = 0 ∨ i = 1 ∨ i = 2 ∨ i = 3 ∨ i = 4 ∨ i = 5 ∨ i = 6 ∨ i = 7 ∨ i = 8 ∨ i = 9) by omega) i hi1 hi2
                    · -- operation 0
                      have HW := Lib.hid hW
                      clear hW hL hd hi1 hi2
                      refine wpOp_step rfl fun K hK => ?_
                      go_simp
                      refine hK _ _ ⟨_, _, _, _, _, _, _, _, _, _, rfl, (Lib.hid fun _ => rfl), k1, k2, k3, k4, k5, k6, k7, k8, k9, HW.out⟩
                    · -- operation 1
                      have HW := Lib.hid hW
                      clear hW hL hd hi1 hi2
                      refine wpOp_step rfl fun K hK => ?_
                      go_simp
                      refine hK _ _ ⟨_, _, _, _, _, _, _, _, _, _, rfl, k0, (Lib.hid fun _ => rfl), k2, k3, k4, k5, k6, k7, k8, k9, HW.out⟩
                    · -- operation 2
                      have HW := Lib.hid hW
                      clear hW hL hd hi1 hi2
                      refine wpOp_step rfl fun K hK => ?_
                      go_simp
                      refine hK _ _ ⟨_, _, _, _, _, _, _, _, _, _, rfl, k0, k1, (Lib.hid fun _ => rfl), k3, k4, k5, k6, k7, k8, k9, HW.out⟩
                    · -- operation 3
                      obtain rfl := k2.out (hd 2 (by decide))
                      have HW := Lib.hid hW
                      clear hW hL hd hi1 hi2
                      refine wpOp_step rfl fun K hK => ?_
                      go_simp
                      refine hK _ _ ⟨_, _, _, _, _, _, _, _, _, _, rfl, k0, k1, k2, (Lib.hid fun _ => rfl), k4, k5, k6, k7, k8, k9, HW.out⟩
                    · -- operation 4
                      obtain rfl := k3.out (hd 3 (by decide))
                      have HW := Lib.hid hW
                      clear hW hL hd hi1 hi2
                      refine wpOp_step rfl fun K hK => ?_
                      go_simp
                      refine hK _ _ ⟨_, _, _, _, _, _, _, _, _, _, rfl, k0, k1, k2, k3, (Lib.hid fun _ => rfl), k5, k6, k7, k8, k9, HW.out⟩
                    · -- operation 5
                      obtain rfl := k1.out (hd 1 (by decide))
                      obtain rfl := k4.out (hd 4 (by decide))
                      have HW := Lib.hid hW
                      clear hW hL hd hi1 hi2
                      refine wpOp_step rfl fun K hK => ?_
                      go_simp
                      refine hK _ _ ⟨_, _, _, _, _, _, _, _, _, _, rfl, k0, k1, k2, k3, k4, (Lib.hid fun _ => rfl), k6, k7, k8, k9, HW.out⟩
                    · -- operation 6
                      obtain rfl := k5.out (hd 5 (by decide))
                      obtain ⟨c0, c1, c2, c3⟩ := hW.1.2
                      have HW := Lib.hid hW
                      clear hW hL hd hi1 hi2
                      refine wpOp_step rfl fun K hK => ?_
                      go_simp
                      refine hK _ _ ⟨_, _, _, _, _, _, _, _, _, _, rfl, k0, k1, k2, k3, k4, k5, (Lib.hid fun _ => rfl), k7, k8, k9, HW.out⟩
                    · -- operation 7
                      have HW := Lib.hid hW
                      clear hW hL hd hi1 hi2
                      refine wpOp_step rfl fun K hK => ?_
                      go_simp
                      go_at_call 15
                      refine (rect_nil _).mono ?_
                      rintro _ w' ⟨rfl, hb⟩
                      refine hK _ _ ⟨_, _, _, _, _, _, _, _, _, _, rfl, k0, k1, k2, k3, k4, k5, k6, (Lib.hid fun _ => rfl), k8, (Lib.hid fun hl => ?_), ⟨HW.out.1.by hb, HW.out.2.trans (hb.mono HW.out.2.size)⟩⟩
                      · obtain ⟨gg, eg, lg, hg⟩ := k9.out hl
                        exact ⟨gg, eg, lg, hg.by hb⟩
                    · -- operation 8
                      obtain rfl := k0.out (hd 0 (by decide))
                      obtain rfl := k6.out (hd 6 (by decide))
                      obtain rfl := k7.out (hd 7 (by decide))
                      have HW := Lib.hid hW
                      clear hW hL hd hi1 hi2
                      refine wpOp_step rfl fun K hK => ?_
                      go_simp
                      go_at_call 16
                      refine (HT.out _).mono ?_
                      rintro _ w' ⟨rfl, hb⟩
                      refine hK _ _ ⟨_, _, _, _, _, _, _, _, _, _, rfl, k0, k1, k2, k3, k4, k5, k6, k7, (Lib.hid fun _ => rfl), (Lib.hid fun hl => ?_), ⟨HW.out.1.by hb, HW.out.2.trans (hb.mono HW.out.2.size)⟩⟩
                      · obtain ⟨gg, eg, lg, hg⟩ := k9.out hl
                        exact ⟨gg, eg, lg, hg.by hb⟩
                    · -- operation 9
                      have HW := Lib.hid hW
                      clear hW hL hd hi1 hi2
                      refine wpOp_step rfl fun K hK => ?_
                      go_simp
                      refine hK _ _ ⟨_, _, _, _, _, _, _, _, _, _, rfl, k0, k1, k2, k3, k4, k5, k6, k7, k8, (Lib.hid fun _ => ⟨_, rfl, HW.out.2.size, At.new _ _ _⟩), ⟨HW.out.1.by ((Below.refl _ _).alloc (Nat.le_refl _) _), HW.out.2.trans (((Below.refl _ _).alloc (Nat.le_refl _) _).mono HW.out.2.size)⟩⟩
                  clear hW
                  clear u
                  intro L a' u hI hall
                  obtain ⟨v17, v91, v92, v93, v94, v95, v96, v97, v98, v99, rfl, k0, k1, k2, k3, k4, k5, k6, k7, k8, k9, hW⟩ := hI
                  obtain ⟨g17, e17, l17, h17⟩ := k9.out (hall 9 (by decide))
                  obtain rfl := k0.out (hall 0 (by decide))
                  obtain rfl := k1.out (hall 1 (by decide))
                  obtain rfl := k2.out (hall 2 (by decide))
                  obtain rfl := k3.out (hall 3 (by decide))
                  obtain rfl := k4.out (hall 4 (by decide))
                  obtain rfl := k5.out (hall 5 (by decide))
                  obtain rfl := k6.out (hall 6 (by decide))
                  obtain rfl := k7.out (hall 7 (by decide))
                  obtain rfl := k8.out (hall 8 (by decide))
                  subst e17
                  clear k0 k1 k2 k3 k4 k5 k6 k7 k8 k9 hall L
                  refine from_tail hTab 10 (by kernel_rfl) ?_
                  show wpOps _ _ _ [10] _ _
                  clear hTab
                  dsimp only
                  clear x1 x2 x3 x4 x5 x6
                  have HW := Lib.hid (And.intro hW h17)
                  clear hW h17
                  obtain ⟨⟨c0', c1', c2', c3', c4', c5', c6'⟩, f0', f1', f2', f3', f4', f5', f6'⟩ := HW.out.2.seven
                  have hs7 := HW.out.2.set7 (.bool t0) (.bool t1) (.bool t2) (.bool em) (.bool t4) (.int .i64 sx) (.int .i64 sy)
                  have hb7 := below_set7 HW.out.1.2 l17 (.bool t0) (.bool t1) (.bool t2) (.bool em) (.bool t4) (.int .i64 sx) (.int .i64 sy)
                  have HW7 := Lib.hid (And.intro hs7 hb7)
                  clear hs7 hb7
                  refine wpOps_tail 10 _ rfl rfl ?_
                  simp only [List.drop_succ_cons, List.drop_zero]
                  go_upto_region 38 with fail
                  clear c0' c1' c2' c3' c4' c5' c6' f0' f1' f2' f3' f4' f5' f6'
                  generalize (((((((u.setCell ⟨g17, 0, none⟩ (.bool t0)).setCell ⟨g17, 1, none⟩ (.bool t1)).setCell ⟨g17, 2, none⟩ (.bool t2)).setCell ⟨g17, 3, none⟩ (.bool em)).setCell ⟨g17, 4, none⟩ (.bool t4)).setCell ⟨g17, 5, none⟩ (.int .i64 sx)).setCell ⟨g17, 6, none⟩ (.int .i64 sy)) = w7 at *
                  clear HW
                  obtain ⟨⟨d0, d1, d2, d3, d4, d5, d6⟩, -⟩ := HW7.out.1.seven
                  have hsw : IntKind.i64.wrap ((s : Int) + 1) = (s : Int) + 1 := IntWalk.i64_in _ (by have := HP.out; omega)
                  cases em with
                  | true =>
                    go_wp2
                    go_roundw
                    case rel =>
                      refine ⟨s + 1, by omega, by omega, ?_, by go_num, HS.out.2.trans (HW7.out.2.mono HS.out.2.size)⟩
                      rw [Nat.add_sub_cancel, HS2.out.1, HS.out.1]
                      unfold areaR
                      rw [if_pos HX.out.2.1]
                      simp
                    case measure => simp [intOf]; omega
                  | false =>
                    have hem := HX.out.2.1
                    obtain ⟨h1, h2, h3, h4⟩ := HX.out.1
                    have hsm := sums_le rs HSM.out (s - 1)
                    rw [HS.out.1] at hsm
                    have hsx : s' - p = sx := by rw [← HX.out.2.2.1]; exact (IntWalk.wrap64_in _ (by dsimp only at h1 h3; omega)).symm
                    have hsy : t' - q' = sy := by rw [← HX.out.2.2.2]; exact (IntWalk.wrap64_in _ (by dsimp only at h2 h4; omega)).symm
                    have har := area_le HX.out.1
                    have hal : areaR ⟨p, q', s', t'⟩ = sx * sy := by unfold areaR; rw [if_neg (by rw [hem]; simp), hsx, hsy]
                    rw [hal] at har
                    have hsums := HS2.out
                    rw [hal, HS.out.1] at hsums
                    have hP32 := HP.out.2.2
                    obtain ⟨ar, harE⟩ : ∃ ar, sx * sy = ar := ⟨_, rfl⟩
                    rw [harE] at har hsums
                    have w1' : IntKind.i64.wrap (sx * sy) = ar := by rw [harE]; exact IntWalk.i64_in _ (by omega)
                    have w2' : IntKind.i64.wrap (-ar) = -ar := IntWalk.i64_in _ (by omega)
                    have w3' : IntKind.i64.wrap (sm + ar) = sm + ar := IntWalk.i64_in _ (by omega)
                    have w4' : IntKind.i64.wrap (sm + -ar) = sm + -ar := IntWalk.i64_in _ (by omega)
                    have HSUM := Lib.hid hsums
                    have hsg := sgn_or ml ar
                    clear h1 h2 h3 h4 hsm hsx hsy har hal hsums hem hP32
                    rcases hsg with ⟨hpar, hsg⟩ | ⟨hpar, hsg⟩
                    · have hp2 : (ml : Int) % 2 = 0 := by omega
                      have HSG := Lib.hid hsg
                      clear hsg hpar harE
                      go_wp2
                      go_roundw
                      case rel =>
                        refine ⟨s + 1, by omega, by omega, ?_, by go_num, HS.out.2.trans (HW7.out.2.mono HS.out.2.size)⟩
                        rw [Nat.add_sub_cancel, HSUM.out.1, HSG.out]
                      case measure => simp [intOf]; omega
                    · have hp2 : (ml : Int) % 2 = 1 := by omega
                      have HSG := Lib.hid hsg
                      clear hsg hpar harE
                      go_wp2
                      go_roundw
                      case rel =>
                        refine ⟨s + 1, by omega, by omega, ?_, by go_num, HS.out.2.trans (HW7.out.2.mono HS.out.2.size)⟩
                        rw [Nat.add_sub_cancel, HSUM.out.1, HSG.out]
                      case measure => simp [intOf]; omega
            · obtain rfl : s = P := by omega
              have heq : sums rs (s - 1) = cnt := by
                rw [← HCN.out, ← HP.out.1, ← HM.out]
                exact sieve_law rs (by rw [HM.out]; exact HL.out) HSM.out
              rw [heq]
              have HB9 := Lib.hid (HBI.out.2.trans (hbel.mono HBI.out.2.size))
              clear heq hbel
              go_wp2
              go_ret
              exact ⟨rfl, HB9.out⟩
end Go.Proofs.Ytojplcchoffapaa
