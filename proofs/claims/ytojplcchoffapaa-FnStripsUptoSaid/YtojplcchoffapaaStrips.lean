/- The walk of FnStrips. Conditions: at most 1048576 places. -/
import Derived.Test.YtojplcchoffapaaPlainStrips
import Derived.Test.YtojplcchoffapaaBoth
import Derived.Test.YtojplcchoffapaaJoin
import Derived.Test.YtojplcchoffapaaHasP
import Derived.Test.YtojplcchoffapaaSpots
import Derived.Test.YtojplcchoffapaaCut
import Derived.Test.YtojplcchoffapaaBlocks
import Derived.Test.YtojplcchoffapaaTail
import Derived.Deep.DeepCutAuto
import Derived.Outline
namespace Go.Proofs.Ytojplcchoffapaa
open Go.RowKit

theorem Nums.oneD {w : World} {g o : Nat} {l : List Int} (h : Nums w (some ⟨g, o, none⟩) l) (hg : g < w.heap.size) {i : Nat} (hi : i < l.length) {x : Int} (hx : l.getD i 0 = x) : One w g (o + i) (.int .i64 x) :=
  ⟨hg, h.one hi (by rw [← hx]; simp [hi])⟩
theorem boths (a b c d e f g h : Int) (m : R) (hm : inter ⟨a, b, c, d⟩ ⟨e, f, g, h⟩ = m) (w : World) :
    Calls Try.prog 25 #[.int .i64 4, .agg #[.int .i64 a, .int .i64 b, .int .i64 c, .int .i64 d], .agg #[.int .i64 e, .int .i64 f, .int .i64 g, .int .i64 h]] w (RetB m w) := hm ▸ both_any 4 a b c d e f g h w
theorem tell_over (a b c d e f g h : Int) (v : Bool) (hv : R.over ⟨a, b, c, d⟩ ⟨e, f, g, h⟩ = v) : ∃ t0 t1 t3 t4 : Bool, ∃ t5 t6 : Int, ∀ w : World,
    Calls Try.prog 16 #[.agg #[.int .i64 0, .int .i64 0], .agg #[.int .i64 a, .int .i64 b, .int .i64 c, .int .i64 d], .agg #[.int .i64 e, .int .i64 f, .int .i64 g, .int .i64 h]] w fun x w' => x = .returned (.agg #[.bool t0, .bool t1, .bool v, .bool t3, .bool t4, .int .i64 t5, .int .i64 t6]) ∧ Below w.heap.size w w' := by
  subst hv
  exact ⟨_, _, _, _, _, _, fun w => tell_any 0 0 a b c d e f g h w⟩
theorem tell_wide (a b c d sx : Int) (hv : wrap64 (c - a) = sx) : ∃ t0 t1 t2 t3 t4 : Bool, ∃ t6 : Int, ∀ w : World,
    Calls Try.prog 16 #[.agg #[.int .i64 0, .int .i64 0], .agg #[.int .i64 a, .int .i64 b, .int .i64 c, .int .i64 d], .agg #[.int .i64 a, .int .i64 b, .int .i64 c, .int .i64 d]] w fun x w' => x = .returned (.agg #[.bool t0, .bool t1, .bool t2, .bool t3, .bool t4, .int .i64 sx, .int .i64 t6]) ∧ Below w.heap.size w w' := by
  subst hv
  exact ⟨_, _, _, _, _, _, fun w => tell_any 0 0 a b c d a b c d w⟩
theorem ownR_new {w : World} {base g : Nat} {v : Value} {l : List R} (h : Own w base v l) (hg : w.heap.size ≤ g) : v.ownBlock ≠ some g := by
  intro e
  have := (World.ownsRow.lt h g e).2
  omega
theorem At.grown {w w' : World} {g : Nat} {t : TypeId} {vs : List Value} {row : Option Nat} (h : At w g t vs) (hg : w.grownBy w' row) (hne : row ≠ some g) : At w' g t vs := (hg.block g h.lt (Ne.symm hne)).trans h

def tab_strips16 : List (List Nat) := [[], [], [], [2], [1, 2, 3], [1, 2, 3, 4], [], [6], [], [], [8, 9], [8, 9, 10], [], [12], [1, 2, 3, 4, 5, 6, 7, 8, 9, 10, 11, 12, 13], [0, 1, 2, 3, 4, 5, 6, 7, 8, 9, 10, 11, 12, 13, 14], [0, 1, 2, 3, 4, 5, 6, 7, 8, 9, 10, 11, 12, 13, 14, 15], [0, 1, 2, 3, 4, 5, 6, 7, 8, 9, 10, 11, 12, 13, 14, 15, 16], [0, 1, 2, 3, 4, 5, 6, 7, 8, 9, 10, 11, 12, 13, 14, 15, 16], [], [0, 1, 2, 3, 4, 5, 6, 7, 8, 9, 10, 11, 12, 13, 14, 15, 16, 17, 19], [0, 1, 2, 3, 4, 5, 6, 7, 8, 9, 10, 11, 12, 13, 14, 15, 16, 17, 18, 19, 20]]
def tab_strips28 : List (List Nat) := [[], [0], [], [2], [0, 1, 2, 3], [0, 1, 2, 3, 4], [0, 1, 2, 3, 4, 5], [0, 1, 2, 3, 4, 5], [0, 1, 2, 3, 4, 5, 7], [0, 1, 2, 3, 4, 5, 7, 8], [0, 1, 2, 3, 4, 5, 6, 7, 8, 9], [0, 1, 2, 3, 4, 5, 6, 7, 8, 9, 10], [0, 1, 2, 3, 4, 5], [0, 1, 2, 3, 4, 5, 6, 7, 8, 9, 10, 11, 12], [0, 1, 2, 3, 4, 5, 6, 7, 8, 9, 10, 11, 12, 13], [0, 1, 2, 3, 4, 5, 6, 7, 8, 9, 10, 11, 12, 13, 14], [0, 1, 2, 3, 4, 5, 6, 7, 8, 9, 10, 11, 12, 13, 14, 15], [0, 1, 2, 3, 4, 5, 6, 7, 8, 9, 10, 11, 12, 13, 14, 15], [0, 1, 2, 3, 4, 5, 6, 7, 8, 9, 10, 11, 12, 13, 14, 15], [0, 1, 2, 3, 4, 5, 6, 7, 8, 9, 10, 11, 12, 13, 14, 15], [0, 1, 2, 3, 4, 5, 6, 7, 8, 9, 10, 11, 12, 13, 14, 15, 17, 18, 19], [0, 1, 2, 3, 4, 5, 6, 7, 8, 9, 10, 11, 12, 13, 14, 15, 17, 18, 19, 20], [0, 1, 2, 3, 4, 5, 6, 7, 8, 9, 10, 11, 12, 13, 14, 15, 17, 18, 19, 20, 21], [0, 1, 2, 3, 4, 5, 6, 7, 8, 9, 10, 11, 12, 13, 14, 15, 16, 17, 18, 19, 20, 21, 22], [0, 1, 2, 3, 4, 5, 6, 7, 8, 9, 10, 11, 12, 13, 14, 15, 16, 17, 18, 19, 20, 21, 22, 23], [0, 1, 2, 3, 4, 5, 6, 7, 8, 9, 10, 11, 12, 13, 14, 15, 16, 17, 18, 19, 20, 21, 22, 23, 24]]
set_option maxRecDepth 10000 in
set_option maxHeartbeats 8000000 in
theorem strips_walk (A0 A1 : Option Addr) (n0 c0 n1 c1 : Nat) (z0 z1 : List Int) (w : World) (h0 : Ints w A0 n0 z0) (h1 : Ints w A1 n1 z1) (hn1 : n1 ≤ 1048576) :
    Calls Try.prog 11 #[.slice A0 n0 c0, .slice A1 n1 c1] w fun e w' => e = .returned (.bool true) ∧ Below w.heap.size w w' := by
  have L1 := fun u hu => lrect_any A0 n0 c0 z0 u hu
  generalize rectOf z0 = r at L1
  obtain ⟨a, b, c, d⟩ := r
  have HL1 := Lib.hid L1
  have H0 := Lib.hid h0
  have H1 := Lib.hid h1
  have HN := Lib.hid hn1
  clear L1 h0 h1 hn1
  obtain ⟨p, hp⟩ : ∃ p, (!emptyB a b c d) = p := ⟨_, rfl⟩
  have HP := Lib.hid hp
  clear hp
  go_enter Try.func11, Try.ntmps11
  go_wp2_with fail
  refine (HL1.out _ H0.out).mono ?_
  rintro _ w1 ⟨rfl, hb1⟩
  have HB1 := Lib.hid hb1
  clear hb1 HL1 H0
  go_wp2_with fail
  refine (numbers_any _ _ _ _ _).mono ?_
  rintro _ w2 ⟨g2, rfl, hg2, hb2⟩
  have hP := haspoints_any g2 a b c d w2 hg2
  rw [HP.out] at hP
  have hb2' := (HB1.out.alloc HB1.out.size (.cells #[.int .i64 a, .int .i64 b, .int .i64 c, .int .i64 d] 24)).trans (hb2.mono (by rw [size_alloc]; have := HB1.out.size; omega))
  have h11 := (At.new w1 24 [.int .i64 a, .int .i64 b, .int .i64 c, .int .i64 d]).by hb2
  have HB2 := Lib.hid (And.intro h11 hb2')
  have HPC := Lib.hid hP
  clear hP hg2 hb2 hb2' h11
  go_wp2_with fail
  refine HPC.out.mono ?_
  rintro _ w3 ⟨rfl, hb3⟩
  have HB3 := Lib.hid (And.intro (HB2.out.1.by hb3) (HB2.out.2.trans (hb3.mono HB2.out.2.size)))
  clear hb3 HPC HB2 HB1
  generalize w1.heap.size = g5 at *
  cases p with
  | false =>
    go_wp2
    go_ret
    exact ⟨rfl, HB3.out.2⟩
  | true =>
    have hle := HP.out
    simp only [emptyB, Bool.not_eq_true', Bool.or_eq_false_iff, decide_eq_false_iff_not] at hle
    have HLE := Lib.hid (show a < c ∧ b < d by omega)
    clear hle HP
    obtain ⟨⟨d0, d1, d2, d3⟩, -⟩ := HB3.out.1.four
    go_wp2_with fail
    clear d0 d1 d2 d3
    refine (sorted_any A1 n1 c1 z1 _ ((H1.out.below (Nat.le_refl _) HB3.out.2).alloc _) (by have := HN.out; omega)).mono ?_
    rintro _ w4 ⟨v27, l, rfl, hlen, hso, ho27, hb4⟩
    obtain ⟨A27, c27, rfl, hN27, -, hcap27⟩ := ho27.form
    rw [hlen] at hcap27 ⊢
    have HS := Lib.hid (And.intro hlen hso)
    have HNu := Lib.hid hN27
    have hb4' := ((Below.refl w3.heap.size w3).alloc (Nat.le_refl _) (.cells #[.int .i64 a] 3)).trans (hb4.mono (by simp))
    have HO := Lib.hid ((ownI_one w3 a).by hb4)
    have HB := Lib.hid hb4'
    have hA27 : ∀ g o, A27 = some ⟨g, o, none⟩ → w3.heap.size + 1 ≤ g := by
      intro g o e
      subst e
      have := (World.ownsRow.lt ho27 g rfl).1
      rw [size_alloc] at this
      exact this
    have HA := Lib.hid hA27
    clear hlen hso ho27 hN27 hb4 hb4' hA27
    go_wp2
    go_loopw [6, 29] (fun v i wr => ∃ k : Nat, k ≤ n1 ∧ i = .int .i64 k ∧ OwnI wr w3.heap.size v ([a] ++ within a c (l.take k)) ∧ (∀ g o, A27 = some ⟨g, o, none⟩ → v.ownBlock ≠ some g) ∧ Nums wr A27 l ∧ Below w3.heap.size w3 wr) (fun _ i _ => n1 - (intOf i).toNat)
    case atStart =>
      refine ⟨0, Nat.zero_le _, rfl, HO.out, fun g o e e2 => ?_, HNu.out, HB.out⟩
      have := HA.out g o e
      simp [Value.ownBlock] at e2
      omega
    case round =>
      obtain ⟨k, hk, rfl, hown, hap, hN, hbel⟩ := hrel
      have h5 := HB3.out.1.by hbel
      obtain ⟨⟨d0, d1, d2, d3⟩, -⟩ := h5.four
      have hn1 := HN.out
      by_cases hlt : k < n1
      · obtain ⟨g, o, rfl, hg, hx⟩ := hN.at_ (i := k) (by rw [HS.out.1]; exact hlt)
        have hsn := within_snoc a c l k (by rw [HS.out.1]; exact hlt)
        have hll := within_length a c l k
        rw [HS.out.1] at hll
        generalize l[k]'(by rw [HS.out.1]; exact hlt) = x at hx hsn
        generalize within a c (l.take k) = m at hsn hll hown
        have HI := Lib.hid (And.intro hown (And.intro (hap g o rfl) (And.intro hN (And.intro hbel (And.intro hsn hll)))))
        clear hown hap hN hbel hsn hll
        by_cases h1 : a ≤ x
        · by_cases h2 : x ≤ c
          · go_wp2_with (at_builtin; (refine append_ints_gr rfl (.tmp 43) (.tmp 45) rfl _ w3.heap.size _ ([a] ++ m) [x] (some ⟨wr.heap.size, 0, none⟩) 1 1 rfl (HI.out.1.alloc _) rfl rfl (At.nums (At.new _ _ _)) (fun h => by cases h) (by have := HI.out.2.2.2.2.2; simp; omega) (by have := HI.out.2.2.2.1.size; simp; omega) ?_); intro v' w5 ho5 hgr5 hbl5 hb5)
            go_roundw
            case rel =>
              have hk6 : v'.ownBlock ≠ some g := by
                rcases hbl5 with e | e
                · rw [e]; exact HI.out.2.1
                · rw [e]; intro e2; injection e2 with e2; simp at e2; omega
              refine ⟨k + 1, by omega, by go_num, ?_, fun g2 o2 e => ?_, numsGrown (HI.out.2.2.1.alloc _) hgr5 (fun g2 o2 e => ?_), (HI.out.2.2.2.1.alloc HI.out.2.2.2.1.size _).trans hb5⟩
              · rw [HI.out.2.2.2.2.1, if_pos ⟨h1, h2⟩, ← List.append_assoc]
                exact ho5
              · simp only [Option.some.injEq, Addr.mk.injEq, and_true] at e
                rw [← e.1]
                exact hk6
              · simp only [Option.some.injEq, Addr.mk.injEq, and_true] at e
                rw [← e.1]
                exact HI.out.2.1
            case measure => simp [intOf]; omega
          · go_wp2
            go_roundw
            case rel =>
              refine ⟨k + 1, by omega, by go_num, ?_, fun g2 o2 e => ?_, HI.out.2.2.1, HI.out.2.2.2.1⟩
              · rw [HI.out.2.2.2.2.1, if_neg (by omega)]
                exact HI.out.1
              · simp only [Option.some.injEq, Addr.mk.injEq, and_true] at e
                rw [← e.1]
                exact HI.out.2.1
            case measure => simp [intOf]; omega
        · go_wp2
          go_roundw
          case rel =>
            refine ⟨k + 1, by omega, by go_num, ?_, fun g2 o2 e => ?_, HI.out.2.2.1, HI.out.2.2.2.1⟩
            · rw [HI.out.2.2.2.2.1, if_neg (by omega)]
              exact HI.out.1
            · simp only [Option.some.injEq, Addr.mk.injEq, and_true] at e
              rw [← e.1]
              exact HI.out.2.1
          case measure => simp [intOf]; omega
      · obtain rfl : k = n1 := by omega
        rw [List.take_of_length_le (by rw [HS.out.1]; exact Nat.le_refl _)] at hown
        have hp : (within a c l).Pairwise (· ≤ ·) := HS.out.2.filter _
        have hb : ∀ y ∈ within a c l, a ≤ y ∧ y ≤ c := by
          intro y hy
          have := (List.mem_filter.1 hy).2
          simpa using this
        have hll : (within a c l).length ≤ k := Nat.le_trans (List.length_filter_le _ _) (by rw [HS.out.1]; exact Nat.le_refl _)
        have hcu := cuts_mk (Int.le_of_lt HLE.out.1) hp hb
        generalize within a c l = m at hown hp hb hll hcu
        have HI := Lib.hid (And.intro hown (And.intro hbel (And.intro hcu (And.intro hll h5))))
        have hlt5 := h5.lt
        clear hown hap hN hbel hp hb hcu hll h5
        go_wp2_with (at_builtin; (refine append_ints_gr rfl (.tmp 48) (.tmp 51) rfl _ w3.heap.size _ ([a] ++ m) [c] (some ⟨wr.heap.size, 0, none⟩) 1 1 rfl (HI.out.1.alloc _) rfl rfl (At.nums (At.new _ _ _)) (fun h => by cases h) (by have := HI.out.2.2.2.1; simp; omega) (by have := HI.out.2.1.size; simp; omega) ?_); intro v6 w5 ho6 hgr5 hbl5 hb5)
        have hB5 := (HI.out.2.1.alloc HI.out.2.1.size (.cells #[.int .i64 c] 3)).trans hb5
        obtain ⟨A6, c6, rfl, hN6, -, -⟩ := ho6.form
        have hcu := HI.out.2.2.1
        have hln : ([a] ++ m ++ [c]).length ≤ 1048578 := by have := HI.out.2.2.2.1; simp; omega
        generalize [a] ++ m ++ [c] = lc at ho6 hN6 hcu hln
        obtain ⟨N, hN⟩ : ∃ N, lc.length = N := ⟨_, rfl⟩
        rw [hN] at hln ⊢
        have HC := Lib.hid (And.intro hcu (And.intro hN hln))
        have HM := Lib.hid (And.intro hN6 (And.intro (HB3.out.1.by hB5) (HB3.out.2.trans (hB5.mono HB3.out.2.size))))
        clear ho6 hN6 hcu hN hln hB5 hb5 hgr5 hbl5 hlt5 HI HS HNu HA HO HB d0 d1 d2 d3 hlt hk hcap27 hn1
        generalize wr = wc at *
        go_loopw [9, 10, 11] (fun sv wv iv wr => ∃ ix : Nat, 1 ≤ ix ∧ ix ≤ N ∧ iv = .int .i64 ix ∧ Own wr w5.heap.size sv (strips b d lc (ix - 1)) ∧ wv = .int .i64 (wrap64 (lc.getD (ix - 1) 0 - a)) ∧ Below w5.heap.size w5 wr) (fun _ _ iv _ => N - (intOf iv).toNat)
        case atStart =>
          refine ⟨1, Nat.le_refl _, by have h1 := HC.out.1.1; rw [HC.out.2.1] at h1; omega, rfl, own_empty _, ?_, (Below.refl _ _).alloc (Nat.le_refl _) _⟩
          rw [Nat.sub_self, HC.out.1.2.2.1, Int.sub_self, IntWalk.wrap64_in 0 (by omega)]
        case round =>
          obtain ⟨ix, hi1, hi2, rfl, hown, rfl, hbel⟩ := hrel
          have hN2 := HC.out.2.2
          by_cases hlt : ix < N
          · obtain ⟨p, hp⟩ : ∃ p, lc.getD (ix - 1) 0 = p := ⟨_, rfl⟩
            obtain ⟨q, hq⟩ : ∃ q, lc.getD ix 0 = q := ⟨_, rfl⟩
            have hpq : p ≤ q := by rw [← hp, ← hq]; exact HC.out.1.le (by omega) (by rw [HC.out.2.1]; exact hlt)
            have hap : a ≤ p := by rw [← hp]; exact HC.out.1.lo_le (by rw [HC.out.2.1]; omega)
            have hqc : q ≤ c := by rw [← hq]; exact HC.out.1.le_hi (by rw [HC.out.2.1]; exact hlt)
            have hin := inter_strip (c := c) HLE.out.2 hap hpq hqc
            have hov := fun i hi => strips_over HC.out.1 b d (ix - 1) i hi (by rw [HC.out.2.1]; omega) q
            rw [hp] at hov ⊢
            have hsn := strips_succ b d lc (ix - 1)
            rw [hp, show ix - 1 + 1 = ix by omega, hq] at hsn
            have hwd := strip_wide (b := b) (d := d) hpq
            have hov2 : ∀ i (hi : i < (strips b d lc (ix - 1)).length), R.over (strip b d p q) (strips b d lc (ix - 1))[i] = false := by
              intro i hi
              rw [strips_get b d lc (ix - 1) i (by rw [strips_length] at hi; exact hi)]
              exact hov i (by rw [strips_length] at hi; exact hi)
            have hsl := strips_length b d lc (ix - 1)
            generalize strips b d lc (ix - 1) = ls at hown hsn hov2 hsl
            obtain ⟨⟨e, f, g', h'⟩, hst⟩ : ∃ r, strip b d p q = r := ⟨_, rfl⟩
            rw [hst] at hin hsn hwd hov2
            dsimp only at hwd
            obtain ⟨ww, hww⟩ : ∃ ww, wrap64 (p - a) = ww := ⟨_, rfl⟩
            obtain ⟨sx, hsx⟩ : ∃ sx, wrap64 (g' - e) = sx := ⟨_, rfl⟩
            obtain ⟨ww2, hww2⟩ : ∃ ww2, wrap64 (q - a) = ww2 := ⟨_, rfl⟩
            have hadd : IntKind.i64.wrap (ww + sx) = ww2 := by
              rw [← hww, ← hsx, wrap_add2, ← hww2, hwd]
              congr 1
              omega
            rw [hww]
            obtain ⟨t0, t1, t2, t3, t4, t6, hTW⟩ := tell_wide e f g' h' sx hsx
            obtain ⟨A9, c9, rfl, hR9⟩ := hown.form
            obtain ⟨M, hM⟩ : ∃ M, ix - 1 = M := ⟨_, rfl⟩
            rw [hM] at hsl
            rw [hsl] at hown ⊢
            obtain ⟨g6, o6, hA6, hg6⟩ := (HM.out.1.by hbel).at_ (i := ix) (by rw [HC.out.2.1]; exact hlt)
            subst hA6
            have HF := Lib.hid (And.intro (HM.out.2.1.by hbel) (And.intro ((HM.out.1.by hbel).oneD hg6.1 (i := ix - 1) (by rw [HC.out.2.1]; omega) hp) ((HM.out.1.by hbel).oneD hg6.1 (i := ix) (by rw [HC.out.2.1]; exact hlt) hq)))
            have HBO := Lib.hid (fun u => boths a b c d p b q d _ hin u)
            have HTW := Lib.hid hTW
            have HOV := Lib.hid (And.intro hov2 (And.intro hsl hM))
            have HO9 := Lib.hid (And.intro hown hR9)
            have HSN := Lib.hid (And.intro hsn (And.intro hq hww2))
            have HADD := Lib.hid hadd
            have HBEL := Lib.hid hbel
            have x1 : IntKind.i64.wrap ((ix : Int) - 1) = (ix : Int) - 1 := IntWalk.i64_in _ (by omega)
            have x2 : 0 ≤ (ix : Int) - 1 := by omega
            have x3 : (ix : Int) - 1 < N := by omega
            have x4 : ((ix : Int) - 1).toNat = ix - 1 := by omega
            have x5 : 1 ≤ (ix : Int) := by omega
            have x6 : ix ≤ N := by omega
            have hM1 : M ≤ 1048577 := by omega
            have HXB := Lib.hid (And.intro hM1 hi2)
            clear hp hq hpq hap hqc hin hov hov2 hwd hsn hsl hst hww hsx hww2 hadd hTW hown hR9 hM hM1 hg6 hbel hN2 hi2
            go_upto_region 16 with fail
            refine from_table tab_strips16 (by kernel_rfl) (by kernel_rfl) (by kernel_rfl) (by kernel_rfl) fun hTab => ?_
            refine from_gen (fun u => Below wr.heap.size wr u) ?_ ?_
            · exact (Below.refl _ _).drew
            intro u hW
            -- operations 0 to 20
            refine from_block' hTab 0 21 (by decide) (by kernel_rfl)
              (fun L a' u => ∃ v12 v60 v61 v62 v63 v64 v65 v66 v67 v68 v69 v70 v71 v72 v73 v74 v75 v76 v77 v78 : Value, a' = ⟨#[Value.slice A0 n0 c0, Value.slice A1 k c1, undef, undef, u4, .pointer (some ⟨g5, 0, none⟩), .slice (some ⟨g6, o6, none⟩) N c6, undef, u8, Value.slice A9 M c9, .int .i64 ww, .int .i64 ↑ix, v12, u13, undef, u15, undef, Value.slice A0 n0 c0, .agg #[.int .i64 a, .int .i64 b, .int .i64 c, .int .i64 d], .agg #[.int .i64 a, .int .i64 b, .int .i64 c, .int .i64 d], .slice (some ⟨g2, 0, none⟩) 4 4, .bool true, .bool false, .pointer (some ⟨g5, 0, none⟩), .int .i64 a, .slice (some ⟨w3.heap.size, 0, none⟩) 1 1, Value.slice A1 k c1, Value.slice A27 k c27, .int .i64 ↑k, .int .i64 ↑k, .bool false, u31, u32, u33, u34, u35, u36, u37, u38, u39, u40, u41, u42, u43, u44, u45, u46, u47, u6, .pointer (some ⟨g5, 2, none⟩), .int .i64 c, .slice (some ⟨wc.heap.size, 0, none⟩) 1 1, .slice (some ⟨g6, o6, none⟩) N c6, .slice (some ⟨w5.heap.size, 0, none⟩) 0 0, .int .i64 ↑ix, .slice (some ⟨g6, o6, none⟩) N c6, .int .i64 ↑N, .bool true, u58, u59, v60, v61, v62, v63, v64, v65, v66, v67, v68, v69, v70, v71, v72, v73, v74, v75, v76, v77, v78, u79, u80, u81, u82, u83, u84, u85, u86, u87, u88, u89, u90, u91, u92, u93, u94, u95, u96, u97, u98, u99, u100, u101, u102, u103, u104, undef, undef, undef, undef, undef, undef, undef, undef, undef, undef, undef, undef, undef, undef, undef, undef, undef, undef, undef, undef, undef, undef, undef, undef, undef, undef, undef], []⟩ ∧
                Hid (L 0 = true → v61 = .agg #[.int .i64 a, .int .i64 b, .int .i64 c, .int .i64 d]) ∧ Hid (L 1 = true → v62 = .slice (some ⟨g6, o6, none⟩) N c6) ∧ Hid (L 2 = true → v63 = .int .i64 ↑ix) ∧ Hid (L 3 = true → v64 = .int .i64 (↑ix - 1)) ∧ Hid (L 4 = true → v65 = .pointer (some ⟨g6, o6 + (ix - 1), none⟩)) ∧ Hid (L 5 = true → v66 = .int .i64 p) ∧ Hid (L 6 = true → v67 = .pointer (some ⟨g5, 1, none⟩)) ∧ Hid (L 7 = true → v68 = .int .i64 b) ∧ Hid (L 8 = true → v69 = .slice (some ⟨g6, o6, none⟩) N c6) ∧ Hid (L 9 = true → v70 = .int .i64 ↑ix) ∧ Hid (L 10 = true → v71 = .pointer (some ⟨g6, o6 + ix, none⟩)) ∧ Hid (L 11 = true → v72 = .int .i64 q) ∧ Hid (L 12 = true → v73 = .pointer (some ⟨g5, 3, none⟩)) ∧ Hid (L 13 = true → v74 = .int .i64 d) ∧ Hid (L 14 = true → v75 = .agg #[.int .i64 p, .int .i64 b, .int .i64 q, .int .i64 d]) ∧ Hid (L 15 = true → v76 = .tuple #[.agg #[.int .i64 e, .int .i64 f, .int .i64 g', .int .i64 h'], .bool true]) ∧ Hid (L 16 = true → v60 = .tuple #[.agg #[.int .i64 e, .int .i64 f, .int .i64 g', .int .i64 h'], .bool true]) ∧ Hid (L 17 = true → v77 = .agg #[.int .i64 e, .int .i64 f, .int .i64 g', .int .i64 h']) ∧ Hid (L 18 = true → v78 = .bool true) ∧ Hid (L 19 = true → ∃ g12, v12 = .pointer (some ⟨g12, 0, none⟩) ∧ wr.heap.size ≤ g12 ∧ At u g12 24 (bif L 20 then [.int .i64 e, .int .i64 f, .int .i64 g', .int .i64 h'] else [.int .i64 0, .int .i64 0, .int .i64 0, .int .i64 0])) ∧ Hid (L 20 = true → L 19 = true) ∧ (Below wr.heap.size wr u)) ?_ ?_ ?_
            · exact ⟨_, _, _, _, _, _, _, _, _, _, _, _, _, _, _, _, _, _, _, _, rfl, (Lib.hid fun h => by cases h), (Lib.hid fun h => by cases h), (Lib.hid fun h => by cases h), (Lib.hid fun h => by cases h), (Lib.hid fun h => by cases h), (Lib.hid fun h => by cases h), (Lib.hid fun h => by cases h), (Lib.hid fun h => by cases h), (Lib.hid fun h => by cases h), (Lib.hid fun h => by cases h), (Lib.hid fun h => by cases h), (Lib.hid fun h => by cases h), (Lib.hid fun h => by cases h), (Lib.hid fun h => by cases h), (Lib.hid fun h => by cases h), (Lib.hid fun h => by cases h), (Lib.hid fun h => by cases h), (Lib.hid fun h => by cases h), (Lib.hid fun h => by cases h), (Lib.hid fun h => by cases h), (Lib.hid fun h => by cases h), hW⟩
            · clear hW
              intro L a' u i hi1 hi2 hI hL hd
              obtain ⟨v12, v60, v61, v62, v63, v64, v65, v66, v67, v68, v69, v70, v71, v72, v73, v74, v75, v76, v77, v78, rfl, k0, k1, k2, k3, k4, k5, k6, k7, k8, k9, k10, k11, k12, k13, k14, k15, k16, k17, k18, k19, q20, hW⟩ := hI
              obtain rfl | rfl | rfl | rfl | rfl | rfl | rfl | rfl | rfl | rfl | rfl | rfl | rfl | rfl | rfl | rfl | rfl | rfl | rfl | rfl | rfl := (show ∀ i : Nat, 0 ≤ i → i < 21 → (i = 0 ∨ i = 1 ∨ i = 2 ∨ i = 3 ∨ i = 4 ∨ i = 5 ∨ i = 6 ∨ i = 7 ∨ i = 8 ∨ i = 9 ∨ i = 10 ∨ i = 11 ∨ i = 12 ∨ i = 13 ∨ i = 14 ∨ i = 15 ∨ i = 16 ∨ i = 17 ∨ i = 18 ∨ i = 19 ∨ i = 20) by omega) i hi1 hi2
              · -- operation 0
                obtain ⟨c0, c1, c2, c3⟩ := (HF.out.1.by hW).four.1
                have HW := Lib.hid hW
                clear hW hL hd hi1 hi2
                refine wpOp_step rfl fun K hK => ?_
                go_simp
                refine hK _ _ ⟨_, _, _, _, _, _, _, _, _, _, _, _, _, _, _, _, _, _, _, _, rfl, (Lib.hid fun _ => rfl), k1, k2, k3, k4, k5, k6, k7, k8, k9, k10, k11, k12, k13, k14, k15, k16, k17, k18, k19, q20, HW.out⟩
              · -- operation 1
                have HW := Lib.hid hW
                clear hW hL hd hi1 hi2
                refine wpOp_step rfl fun K hK => ?_
                go_simp
                refine hK _ _ ⟨_, _, _, _, _, _, _, _, _, _, _, _, _, _, _, _, _, _, _, _, rfl, k0, (Lib.hid fun _ => rfl), k2, k3, k4, k5, k6, k7, k8, k9, k10, k11, k12, k13, k14, k15, k16, k17, k18, k19, q20, HW.out⟩
              · -- operation 2
                have HW := Lib.hid hW
                clear hW hL hd hi1 hi2
                refine wpOp_step rfl fun K hK => ?_
                go_simp
                refine hK _ _ ⟨_, _, _, _, _, _, _, _, _, _, _, _, _, _, _, _, _, _, _, _, rfl, k0, k1, (Lib.hid fun _ => rfl), k3, k4, k5, k6, k7, k8, k9, k10, k11, k12, k13, k14, k15, k16, k17, k18, k19, q20, HW.out⟩
              · -- operation 3
                obtain rfl := k2.out (hd 2 (by decide))
                have HW := Lib.hid hW
                clear hW hL hd hi1 hi2
                refine wpOp_step rfl fun K hK => ?_
                go_simp
                refine hK _ _ ⟨_, _, _, _, _, _, _, _, _, _, _, _, _, _, _, _, _, _, _, _, rfl, k0, k1, k2, (Lib.hid fun _ => rfl), k4, k5, k6, k7, k8, k9, k10, k11, k12, k13, k14, k15, k16, k17, k18, k19, q20, HW.out⟩
              · -- operation 4
                obtain rfl := k1.out (hd 1 (by decide))
                obtain rfl := k3.out (hd 3 (by decide))
                have HW := Lib.hid hW
                clear hW hL hd hi1 hi2
                refine wpOp_step rfl fun K hK => ?_
                go_simp
                refine hK _ _ ⟨_, _, _, _, _, _, _, _, _, _, _, _, _, _, _, _, _, _, _, _, rfl, k0, k1, k2, k3, (Lib.hid fun _ => rfl), k5, k6, k7, k8, k9, k10, k11, k12, k13, k14, k15, k16, k17, k18, k19, q20, HW.out⟩
              · -- operation 5
                obtain rfl := k4.out (hd 4 (by decide))
                have c0 := (HF.out.2.1.by hW).2
                have HW := Lib.hid hW
                clear hW hL hd hi1 hi2
                refine wpOp_step rfl fun K hK => ?_
                go_simp
                refine hK _ _ ⟨_, _, _, _, _, _, _, _, _, _, _, _, _, _, _, _, _, _, _, _, rfl, k0, k1, k2, k3, k4, (Lib.hid fun _ => rfl), k6, k7, k8, k9, k10, k11, k12, k13, k14, k15, k16, k17, k18, k19, q20, HW.out⟩
              · -- operation 6
                have HW := Lib.hid hW
                clear hW hL hd hi1 hi2
                refine wpOp_step rfl fun K hK => ?_
                go_simp
                refine hK _ _ ⟨_, _, _, _, _, _, _, _, _, _, _, _, _, _, _, _, _, _, _, _, rfl, k0, k1, k2, k3, k4, k5, (Lib.hid fun _ => rfl), k7, k8, k9, k10, k11, k12, k13, k14, k15, k16, k17, k18, k19, q20, HW.out⟩
              · -- operation 7
                obtain rfl := k6.out (hd 6 (by decide))
                obtain ⟨c0, c1, c2, c3⟩ := (HF.out.1.by hW).four.1
                have HW := Lib.hid hW
                clear hW hL hd hi1 hi2
                refine wpOp_step rfl fun K hK => ?_
                go_simp
                refine hK _ _ ⟨_, _, _, _, _, _, _, _, _, _, _, _, _, _, _, _, _, _, _, _, rfl, k0, k1, k2, k3, k4, k5, k6, (Lib.hid fun _ => rfl), k8, k9, k10, k11, k12, k13, k14, k15, k16, k17, k18, k19, q20, HW.out⟩
              · -- operation 8
                have HW := Lib.hid hW
                clear hW hL hd hi1 hi2
                refine wpOp_step rfl fun K hK => ?_
                go_simp
                refine hK _ _ ⟨_, _, _, _, _, _, _, _, _, _, _, _, _, _, _, _, _, _, _, _, rfl, k0, k1, k2, k3, k4, k5, k6, k7, (Lib.hid fun _ => rfl), k9, k10, k11, k12, k13, k14, k15, k16, k17, k18, k19, q20, HW.out⟩
              · -- operation 9
                have HW := Lib.hid hW
                clear hW hL hd hi1 hi2
                refine wpOp_step rfl fun K hK => ?_
                go_simp
                refine hK _ _ ⟨_, _, _, _, _, _, _, _, _, _, _, _, _, _, _, _, _, _, _, _, rfl, k0, k1, k2, k3, k4, k5, k6, k7, k8, (Lib.hid fun _ => rfl), k10, k11, k12, k13, k14, k15, k16, k17, k18, k19, q20, HW.out⟩
              · -- operation 10
                obtain rfl := k8.out (hd 8 (by decide))
                obtain rfl := k9.out (hd 9 (by decide))
                have HW := Lib.hid hW
                clear hW hL hd hi1 hi2
                refine wpOp_step rfl fun K hK => ?_
                go_simp
                refine hK _ _ ⟨_, _, _, _, _, _, _, _, _, _, _, _, _, _, _, _, _, _, _, _, rfl, k0, k1, k2, k3, k4, k5, k6, k7, k8, k9, (Lib.hid fun _ => rfl), k11, k12, k13, k14, k15, k16, k17, k18, k19, q20, HW.out⟩
              · -- operation 11
                obtain rfl := k10.out (hd 10 (by decide))
                have c0 := (HF.out.2.2.by hW).2
                have HW := Lib.hid hW
                clear hW hL hd hi1 hi2
                refine wpOp_step rfl fun K hK => ?_
                go_simp
                refine hK _ _ ⟨_, _, _, _, _, _, _, _, _, _, _, _, _, _, _, _, _, _, _, _, rfl, k0, k1, k2, k3, k4, k5, k6, k7, k8, k9, k10, (Lib.hid fun _ => rfl), k12, k13, k14, k15, k16, k17, k18, k19, q20, HW.out⟩
              · -- operation 12
                have HW := Lib.hid hW
                clear hW hL hd hi1 hi2
                refine wpOp_step rfl fun K hK => ?_
                go_simp
                refine hK _ _ ⟨_, _, _, _, _, _, _, _, _, _, _, _, _, _, _, _, _, _, _, _, rfl, k0, k1, k2, k3, k4, k5, k6, k7, k8, k9, k10, k11, (Lib.hid fun _ => rfl), k13, k14, k15, k16, k17, k18, k19, q20, HW.out⟩
              · -- operation 13
                obtain rfl := k12.out (hd 12 (by decide))
                obtain ⟨c0, c1, c2, c3⟩ := (HF.out.1.by hW).four.1
                have HW := Lib.hid hW
                clear hW hL hd hi1 hi2
                refine wpOp_step rfl fun K hK => ?_
                go_simp
                refine hK _ _ ⟨_, _, _, _, _, _, _, _, _, _, _, _, _, _, _, _, _, _, _, _, rfl, k0, k1, k2, k3, k4, k5, k6, k7, k8, k9, k10, k11, k12, (Lib.hid fun _ => rfl), k14, k15, k16, k17, k18, k19, q20, HW.out⟩
              · -- operation 14
                obtain rfl := k5.out (hd 5 (by decide))
                obtain rfl := k7.out (hd 7 (by decide))
                obtain rfl := k11.out (hd 11 (by decide))
                obtain rfl := k13.out (hd 13 (by decide))
                have HW := Lib.hid hW
                clear hW hL hd hi1 hi2
                refine wpOp_step rfl fun K hK => ?_
                go_simp
                refine hK _ _ ⟨_, _, _, _, _, _, _, _, _, _, _, _, _, _, _, _, _, _, _, _, rfl, k0, k1, k2, k3, k4, k5, k6, k7, k8, k9, k10, k11, k12, k13, (Lib.hid fun _ => rfl), k15, k16, k17, k18, k19, q20, HW.out⟩
              · -- operation 15
                obtain rfl := k0.out (hd 0 (by decide))
                obtain rfl := k14.out (hd 14 (by decide))
                have HW := Lib.hid hW
                clear hW hL hd hi1 hi2
                refine wpOp_step rfl fun K hK => ?_
                go_simp
                go_at_call 25
                refine (HBO.out _).mono ?_
                rintro _ w' ⟨rfl, hb⟩
                refine hK _ _ ⟨_, _, _, _, _, _, _, _, _, _, _, _, _, _, _, _, _, _, _, _, rfl, k0, k1, k2, k3, k4, k5, k6, k7, k8, k9, k10, k11, k12, k13, k14, (Lib.hid fun _ => rfl), k16, k17, k18, (Lib.hid fun hl => ?_), q20, HW.out.trans (hb.mono HW.out.size)⟩
                · obtain ⟨gg, eg, lg, hg⟩ := k19.out hl
                  exact ⟨gg, eg, lg, hg.by hb⟩
              · -- operation 16
                obtain rfl := k15.out (hd 15 (by decide))
                have HW := Lib.hid hW
                clear hW hL hd hi1 hi2
                refine wpOp_step rfl fun K hK => ?_
                go_simp
                refine hK _ _ ⟨_, _, _, _, _, _, _, _, _, _, _, _, _, _, _, _, _, _, _, _, rfl, k0, k1, k2, k3, k4, k5, k6, k7, k8, k9, k10, k11, k12, k13, k14, k15, (Lib.hid fun _ => rfl), k17, k18, k19, q20, HW.out⟩
              · -- operation 17
                obtain rfl := k16.out (hd 16 (by decide))
                have HW := Lib.hid hW
                clear hW hL hd hi1 hi2
                refine wpOp_step rfl fun K hK => ?_
                go_simp
                refine hK _ _ ⟨_, _, _, _, _, _, _, _, _, _, _, _, _, _, _, _, _, _, _, _, rfl, k0, k1, k2, k3, k4, k5, k6, k7, k8, k9, k10, k11, k12, k13, k14, k15, k16, (Lib.hid fun _ => rfl), k18, k19, q20, HW.out⟩
              · -- operation 18
                obtain rfl := k16.out (hd 16 (by decide))
                have HW := Lib.hid hW
                clear hW hL hd hi1 hi2
                refine wpOp_step rfl fun K hK => ?_
                go_simp
                refine hK _ _ ⟨_, _, _, _, _, _, _, _, _, _, _, _, _, _, _, _, _, _, _, _, rfl, k0, k1, k2, k3, k4, k5, k6, k7, k8, k9, k10, k11, k12, k13, k14, k15, k16, k17, (Lib.hid fun _ => rfl), k19, q20, HW.out⟩
              · -- operation 19
                have hLs : L 20 = false := by
                  cases hc : L 20 with
                  | false => rfl
                  | true => exact absurd (q20.out hc) (by rw [hL]; decide)
                have HW := Lib.hid hW
                clear hW hL hd hi1 hi2
                refine wpOp_step rfl fun K hK => ?_
                go_simp
                refine hK _ _ ⟨_, _, _, _, _, _, _, _, _, _, _, _, _, _, _, _, _, _, _, _, rfl, k0, k1, k2, k3, k4, k5, k6, k7, k8, k9, k10, k11, k12, k13, k14, k15, k16, k17, k18, (Lib.hid fun _ => ⟨_, rfl, HW.out.size, At.bif_false hLs (At.new _ _ _)⟩), (Lib.hid fun _ => rfl), HW.out.trans (((Below.refl _ _).alloc (Nat.le_refl _) _).mono HW.out.size)⟩
              · -- operation 20
                obtain rfl := k17.out (hd 17 (by decide))
                obtain ⟨gg, rfl, lg, hg⟩ := k19.out (hd 19 (by decide))
                have hda := hd 19 (by decide)
                rw [hL] at hg
                dsimp only [cond_false] at hg
                obtain ⟨⟨c0, c1, c2, c3⟩, z0, z1, z2, z3⟩ := hg.four
                have HG := Lib.hid hg
                clear hg
                have HW := Lib.hid hW
                clear hW hL hd hi1 hi2
                refine wpOp_step rfl fun K hK => ?_
                go_simp
                refine hK _ _ ⟨_, _, _, _, _, _, _, _, _, _, _, _, _, _, _, _, _, _, _, _, rfl, k0, k1, k2, k3, k4, k5, k6, k7, k8, k9, k10, k11, k12, k13, k14, k15, k16, k17, k18, (Lib.hid fun _ => ⟨gg, rfl, lg, HG.out.set4 _ _ _ _⟩), (Lib.hid fun _ => hda), below_set4 HW.out lg _ _ _ _⟩
            clear hW
            clear u
            intro L a' u hI hall
            obtain ⟨v12, v60, v61, v62, v63, v64, v65, v66, v67, v68, v69, v70, v71, v72, v73, v74, v75, v76, v77, v78, rfl, k0, k1, k2, k3, k4, k5, k6, k7, k8, k9, k10, k11, k12, k13, k14, k15, k16, k17, k18, k19, q20, hW⟩ := hI
            obtain ⟨g12, e12, l12, h12⟩ := k19.out (hall 19 (by decide))
            obtain rfl := k0.out (hall 0 (by decide))
            obtain rfl := k1.out (hall 1 (by decide))
            obtain rfl := k2.out (hall 2 (by decide))
            obtain rfl := k3.out (hall 3 (by decide))
            obtain rfl := k4.out (hall 4 (by decide))
            obtain rfl := k5.out (hall 5 (by decide))
            obtain rfl := k6.out (hall 6 (by decide))
            obtain rfl := k7.out (hall 7 (by decide))
            obtain rfl := k8.out (hall 8 (by decide))
            obtain rfl := k9.out (hall 9 (by decide))
            obtain rfl := k10.out (hall 10 (by decide))
            obtain rfl := k11.out (hall 11 (by decide))
            obtain rfl := k12.out (hall 12 (by decide))
            obtain rfl := k13.out (hall 13 (by decide))
            obtain rfl := k14.out (hall 14 (by decide))
            obtain rfl := k15.out (hall 15 (by decide))
            obtain rfl := k16.out (hall 16 (by decide))
            obtain rfl := k17.out (hall 17 (by decide))
            obtain rfl := k18.out (hall 18 (by decide))
            subst e12
            rw [show L 20 = true from (hall 20 (by decide))] at h12
            dsimp only [cond_true] at h12
            clear k0 k1 k2 k3 k4 k5 k6 k7 k8 k9 k10 k11 k12 k13 k14 k15 k16 k17 k18 k19 q20 hall L
            -- operation 21 alone
            refine from_one' hTab 21 (by kernel_rfl) ?_
            have HW := Lib.hid hW
            have Hh12 := Lib.hid h12
            clear hW h12
            refine wpOp_step rfl fun K hK => ?_
            go_simp
            refine hK _ _ ?_
            clear hK K
            have hW := HW.out
            have h12 := Hh12.out
            clear HW Hh12
            refine from_end' hTab 22 (by kernel_rfl) ?_
            clear hTab
            clear x1 x2 x3 x4 x5
            have HW := Lib.hid (And.intro hW h12)
            clear hW h12
            have hf2 := told2
            have hf5 := told5
            have hfp := ptfield0
            go_wp2_with fail
            obtain ⟨w7, hw7⟩ : ∃ w7, w7 = u := ⟨_, rfl⟩
            rw [← hw7] at HW ⊢
            clear hw7
            go_loopw [83] (fun jv wx => ∃ j : Nat, j ≤ M ∧ jv = .int .i64 j ∧ Below w7.heap.size w7 wx) (fun jv _ => M - (intOf jv).toNat)
            case atStart => exact ⟨0, Nat.zero_le _, rfl, Below.refl _ _⟩
            case round =>
              obtain ⟨j, hj, rfl, hbj⟩ := hrel
              generalize wr = wx at *
              have hMb := HXB.out.1
              by_cases hltj : j < M
              · have hR7 := (HO9.out.2.by HW.out.1).by hbj
                obtain ⟨g9, o9, rfl, hg9, y0, y1, y2, y3⟩ := hR7.at_ (i := j) (by rw [HOV.out.2.1]; exact hltj)
                have hov := HOV.out.1 j (by rw [HOV.out.2.1]; exact hltj)
                generalize ls[j]'(by rw [HOV.out.2.1]; exact hltj) = s at y0 y1 y2 y3 hov
                obtain ⟨s0, s1, s2, s3⟩ := s
                dsimp only at y0 y1 y2 y3
                obtain ⟨v0, v1, v3, v4, v5, v6, hT⟩ := tell_over e f g' h' s0 s1 s2 s3 false hov
                have h12 := HW.out.2.by hbj
                obtain ⟨⟨k0, k1, k2, k3⟩, -⟩ := h12.four
                have hlt12 := h12.lt
                have HT := Lib.hid hT
                have HBJ := Lib.hid hbj
                clear hR7 hov hT h12 hbj
                go_wp2_with fail
                refine (HT.out _).mono ?_
                rintro _ w8 ⟨rfl, hb8⟩
                have HB8 := Lib.hid ((HBJ.out.alloc HBJ.out.size (.cells #[.int .i64 s0, .int .i64 s1, .int .i64 s2, .int .i64 s3] 24)).trans (hb8.mono (by rw [size_alloc]; have := HBJ.out.size; omega)))
                clear hb8 y0 y1 y2 y3 k0 k1 k2 k3
                go_wp2
                go_roundw
                case rel => exact ⟨j + 1, by omega, by go_num, HB8.out⟩
                case measure => simp [intOf]; omega
              · have h12 := HW.out.2.by hbj
                obtain ⟨⟨k0, k1, k2, k3⟩, -⟩ := h12.four
                have hb7 := HW.out.1.trans (hbj.mono HW.out.1.size)
                have HJ := Lib.hid (And.intro h12 (And.intro (HO9.out.1.by hb7) (HBEL.out.trans (hb7.mono HBEL.out.size))))
                clear h12 hbj hb7
                have hadd := HADD.out
                have hixw : IntKind.i64.wrap ((ix : Int) + 1) = (ix : Int) + 1 := IntWalk.i64_in _ (by have := HC.out.2.2; omega)
                have hne12 : (Value.slice A9 M c9).ownBlock ≠ some g12 := ownR_new HO9.out.1 l12
                have HNE := Lib.hid hne12
                clear hne12
                go_wp2_with (at_builtin; (refine append_rect_gr rfl (.tmp 93) (.tmp 95) rfl _ w5.heap.size wx.heap.size _ ls ⟨e, f, g', h'⟩ rfl (HJ.out.2.1.alloc _) rfl (At.new _ _ _) (by have := HOV.out.2.1; omega) (by have := HJ.out.2.2.size; rw [size_alloc]; omega) ?_); intro v9 w8 ho9 hgr9 hbl9 hb9; have h12' := (HJ.out.1.alloc _).grown hgr9 HNE.out; obtain ⟨⟨m0, m1, m2, m3⟩, -⟩ := h12'.four)
                refine (HTW.out _).mono ?_
                rintro _ w9 ⟨rfl, hb10⟩
                have hb9' := (HJ.out.2.2.alloc HJ.out.2.2.size (.cells #[.int .i64 e, .int .i64 f, .int .i64 g', .int .i64 h'] 24)).trans hb9
                have HK := Lib.hid (And.intro (ho9.by hb10) (hb9'.trans (hb10.mono hb9'.size)))
                clear ho9 hgr9 hbl9 hb9 hb10 h12' m0 m1 m2 m3 k0 k1 k2 k3 hb9'
                go_wp2
                go_roundw
                case rel =>
                  refine ⟨ix + 1, by omega, by omega, by go_num, ?_, ?_, HK.out.2⟩
                  · rw [Nat.add_sub_cancel, HSN.out.1]
                    exact HK.out.1
                  · rw [Nat.add_sub_cancel, HSN.out.2.1, HSN.out.2.2]
                case measure => simp [intOf]; omega
          · obtain rfl : ix = N := by omega
            obtain ⟨M, hM⟩ : ∃ M, ix - 1 = M := ⟨_, rfl⟩
            have h2 := HC.out.1.1
            rw [HC.out.2.1] at h2
            have hcl : lc.getD M 0 = c := by have := HC.out.1.2.2.2; rw [HC.out.2.1, hM] at this; exact this
            have hacc := acc_strips HC.out.1 HLE.out.2 (M - 1) (by rw [HC.out.2.1]; omega)
            rw [show M - 1 + 1 = M by omega, hcl] at hacc
            have hst : strip b d a c = ⟨a, b, c, d⟩ := by unfold strip; rw [if_pos HLE.out.1]
            rw [hst] at hacc
            rw [hM] at hown ⊢
            rw [hcl]
            have hsl := strips_length b d lc M
            generalize strips b d lc M = ls at hown hacc hsl
            obtain ⟨ww, hww⟩ : ∃ ww, wrap64 (c - a) = ww := ⟨_, rfl⟩
            rw [hww]
            obtain ⟨t0, t1, t2, t3, t4, t6, hTW⟩ := tell_wide a b c d ww hww
            obtain ⟨A9, c9, rfl, hR9⟩ := hown.form
            have hJ := fun u hu => join_any A9 c9 ls u hu (by omega)
            rw [hsl] at hJ ⊢
            have HJ := Lib.hid hJ
            have HTW := Lib.hid hTW
            have HR9 := Lib.hid (And.intro hR9 (And.intro hacc hsl))
            have HB6 := Lib.hid (And.intro (HM.out.2.1.by hbel) (HM.out.2.2.trans (hbel.mono HM.out.2.2.size)))
            have hMp : 1 ≤ M ∧ M ≤ 1048577 := by omega
            clear hcl hacc hst hown hsl hww hTW hR9 hJ hbel h2 hM hN2 hi1 hi2 hlt
            go_wp2_with fail
            refine (HJ.out _ HR9.out.1).mono ?_
            rintro _ w6 ⟨v16, rfl, ho16, hb6⟩
            obtain ⟨A16, c16, rfl, hR16⟩ := ho16.form
            rw [accs_length]
            have hlast := accs_get union ls M (M - 1) (by omega)
            rw [show M - 1 + 1 = M by omega, List.take_of_length_le (by rw [HR9.out.2.2]; exact Nat.le_refl _), HR9.out.2.1] at hlast
            obtain ⟨g16, o16, rfl, hg16⟩ := hR16.addr (by rw [accs_length]; omega)
            have h4 := hR16.four (i := M - 1) (by rw [accs_length]; omega) hlast hg16
            have HB7 := Lib.hid (And.intro h4 (And.intro (HB6.out.1.by hb6) (HB6.out.2.trans (hb6.mono HB6.out.2.size))))
            clear ho16 hR16 hlast hg16 h4 hb6 HB6 HJ
            have hf5 := told5
            have hfp := ptfield0
            have x1 : IntKind.i64.wrap ((M : Int) - 1) = (M : Int) - 1 := IntWalk.i64_in _ (by omega)
            have x2 : 0 ≤ (M : Int) - 1 := by omega
            have x3 : (M : Int) - 1 < M := by omega
            have x4 : ((M : Int) - 1).toNat = M - 1 := by omega
            have x5 : 1 ≤ (M : Int) := by omega
            have x6 : 1 ≤ M := by omega
            clear hMp
            go_wp2_with fail
            refine from_table tab_strips28 (by kernel_rfl) (by kernel_rfl) (by kernel_rfl) (by kernel_rfl) fun hTab => ?_
            refine from_gen (fun u => Four u g16 (o16 + (M - 1) * 4) a b c d ∧ At u g5 24 [.int .i64 (a), .int .i64 (b), .int .i64 (c), .int .i64 (d)] ∧ Below w.heap.size w u) ?_ ?_
            · exact ⟨HB7.out.1, HB7.out.2.1, HB7.out.2.2.drew⟩
            intro u hW
            -- operations 0 to 3
            refine from_block' hTab 0 4 (by decide) (by kernel_rfl)
              (fun L a' u => ∃ v107 v108 v109 v110 : Value, a' = ⟨#[Value.slice A0 n0 c0, Value.slice A1 k c1, undef, undef, u4, .pointer (some ⟨g5, 0, none⟩), Value.slice A6 ix c6, undef, u8, Value.slice A9 M c9, .int .i64 ww, .int .i64 ↑ix, u12, u13, undef, u15, .slice (some ⟨g16, o16, none⟩) M c16, Value.slice A0 n0 c0, .agg #[.int .i64 a, .int .i64 b, .int .i64 c, .int .i64 d], .agg #[.int .i64 a, .int .i64 b, .int .i64 c, .int .i64 d], .slice (some ⟨g2, 0, none⟩) 4 4, .bool true, .bool false, .pointer (some ⟨g5, 0, none⟩), .int .i64 a, .slice (some ⟨w3.heap.size, 0, none⟩) 1 1, Value.slice A1 k c1, Value.slice A27 k c27, .int .i64 ↑k, .int .i64 ↑k, .bool false, u31, u32, u33, u34, u35, u36, u37, u38, u39, u40, u41, u42, u43, u44, u45, u46, u47, u6, .pointer (some ⟨g5, 2, none⟩), .int .i64 c, .slice (some ⟨wc.heap.size, 0, none⟩) 1 1, Value.slice A6 ix c6, .slice (some ⟨w5.heap.size, 0, none⟩) 0 0, .int .i64 ↑ix, Value.slice A6 ix c6, .int .i64 ↑ix, .bool false, u58, u59, u60, u61, u62, u63, u64, u65, u66, u67, u68, u69, u70, u71, u72, u73, u74, u75, u76, u77, u78, u79, u80, u81, u82, u83, u84, u85, u86, u87, u88, u89, u90, u91, u92, u93, u94, u95, u96, u97, u98, u99, u100, u101, u102, u103, u104, Value.slice A9 M c9, .slice (some ⟨g16, o16, none⟩) M c16, v107, v108, v109, v110, undef, undef, undef, undef, undef, undef, undef, undef, undef, undef, undef, undef, undef, undef, undef, undef, undef, undef, undef, undef, undef], []⟩ ∧
                Hid (L 0 = true → v107 = .slice (some ⟨g16, o16, none⟩) M c16) ∧ Hid (L 1 = true → v108 = .int .i64 ↑M) ∧ Hid (L 2 = true → v109 = Value.slice A9 M c9) ∧ Hid (L 3 = true → v110 = .int .i64 ↑M) ∧ (Four u g16 (o16 + (M - 1) * 4) a b c d ∧ At u g5 24 [.int .i64 (a), .int .i64 (b), .int .i64 (c), .int .i64 (d)] ∧ Below w.heap.size w u)) ?_ ?_ ?_
            · exact ⟨_, _, _, _, rfl, (Lib.hid fun h => by cases h), (Lib.hid fun h => by cases h), (Lib.hid fun h => by cases h), (Lib.hid fun h => by cases h), hW⟩
            · clear hW
              intro L a' u i hi1 hi2 hI hL hd
              obtain ⟨v107, v108, v109, v110, rfl, k0, k1, k2, k3, hW⟩ := hI
              obtain rfl | rfl | rfl | rfl := (show ∀ i : Nat, 0 ≤ i → i < 4 → (i = 0 ∨ i = 1 ∨ i = 2 ∨ i = 3) by omega) i hi1 hi2
              · -- operation 0
                have HW := Lib.hid hW
                clear hW hL hd hi1 hi2
                refine wpOp_step rfl fun K hK => ?_
                go_simp
                refine hK _ _ ⟨_, _, _, _, rfl, (Lib.hid fun _ => rfl), k1, k2, k3, HW.out⟩
              · -- operation 1
                obtain rfl := k0.out (hd 0 (by decide))
                have HW := Lib.hid hW
                clear hW hL hd hi1 hi2
                refine wpOp_step rfl fun K hK => ?_
                go_simp
                refine hK _ _ ⟨_, _, _, _, rfl, k0, (Lib.hid fun _ => rfl), k2, k3, HW.out⟩
              · -- operation 2
                have HW := Lib.hid hW
                clear hW hL hd hi1 hi2
                refine wpOp_step rfl fun K hK => ?_
                go_simp
                refine hK _ _ ⟨_, _, _, _, rfl, k0, k1, (Lib.hid fun _ => rfl), k3, HW.out⟩
              · -- operation 3
                obtain rfl := k2.out (hd 2 (by decide))
                have HW := Lib.hid hW
                clear hW hL hd hi1 hi2
                refine wpOp_step rfl fun K hK => ?_
                go_simp
                refine hK _ _ ⟨_, _, _, _, rfl, k0, k1, k2, (Lib.hid fun _ => rfl), HW.out⟩
            clear hW
            clear u
            intro L a' u hI hall
            obtain ⟨v107, v108, v109, v110, rfl, k0, k1, k2, k3, hW⟩ := hI
            obtain rfl := k0.out (hall 0 (by decide))
            obtain rfl := k1.out (hall 1 (by decide))
            obtain rfl := k2.out (hall 2 (by decide))
            obtain rfl := k3.out (hall 3 (by decide))
            clear k0 k1 k2 k3 hall L
            -- operation 4 alone
            refine from_one' hTab 4 (by kernel_rfl) ?_
            have HW := Lib.hid hW
            clear hW
            refine wpOp_step rfl fun K hK => ?_
            go_simp
            refine hK _ _ ?_
            clear hK K
            have hW := HW.out
            clear HW
            -- operation 5 alone
            refine from_one' hTab 5 (by kernel_rfl) ?_
            have HW := Lib.hid hW
            clear hW
            refine wpOp_step rfl fun K hK => ?_
            go_simp
            refine hK _ _ ?_
            clear hK K
            have hW := HW.out
            clear HW
            -- operations 6 to 12
            refine from_block' hTab 6 13 (by decide) (by kernel_rfl)
              (fun L a' u => ∃ v113 v114 v115 v116 v117 v118 v119 : Value, a' = ⟨#[Value.slice A0 n0 c0, Value.slice A1 k c1, undef, undef, u4, .pointer (some ⟨g5, 0, none⟩), Value.slice A6 ix c6, undef, u8, Value.slice A9 M c9, .int .i64 ww, .int .i64 ↑ix, u12, u13, undef, u15, .slice (some ⟨g16, o16, none⟩) M c16, Value.slice A0 n0 c0, .agg #[.int .i64 a, .int .i64 b, .int .i64 c, .int .i64 d], .agg #[.int .i64 a, .int .i64 b, .int .i64 c, .int .i64 d], .slice (some ⟨g2, 0, none⟩) 4 4, .bool true, .bool false, .pointer (some ⟨g5, 0, none⟩), .int .i64 a, .slice (some ⟨w3.heap.size, 0, none⟩) 1 1, Value.slice A1 k c1, Value.slice A27 k c27, .int .i64 ↑k, .int .i64 ↑k, .bool false, u31, u32, u33, u34, u35, u36, u37, u38, u39, u40, u41, u42, u43, u44, u45, u46, u47, u6, .pointer (some ⟨g5, 2, none⟩), .int .i64 c, .slice (some ⟨wc.heap.size, 0, none⟩) 1 1, Value.slice A6 ix c6, .slice (some ⟨w5.heap.size, 0, none⟩) 0 0, .int .i64 ↑ix, Value.slice A6 ix c6, .int .i64 ↑ix, .bool false, u58, u59, u60, u61, u62, u63, u64, u65, u66, u67, u68, u69, u70, u71, u72, u73, u74, u75, u76, u77, u78, u79, u80, u81, u82, u83, u84, u85, u86, u87, u88, u89, u90, u91, u92, u93, u94, u95, u96, u97, u98, u99, u100, u101, u102, u103, u104, Value.slice A9 M c9, .slice (some ⟨g16, o16, none⟩) M c16, .slice (some ⟨g16, o16, none⟩) M c16, .int .i64 ↑M, Value.slice A9 M c9, .int .i64 ↑M, .bool true, .bool true, v113, v114, v115, v116, v117, v118, v119, undef, undef, undef, undef, undef, undef, undef, undef, undef, undef, undef, undef], []⟩ ∧
                Hid (L 6 = true → v113 = .slice (some ⟨g16, o16, none⟩) M c16) ∧ Hid (L 7 = true → v114 = .slice (some ⟨g16, o16, none⟩) M c16) ∧ Hid (L 8 = true → v115 = .int .i64 ↑M) ∧ Hid (L 9 = true → v116 = .int .i64 (↑M - 1)) ∧ Hid (L 10 = true → v117 = .pointer (some ⟨g16, o16 + (M - 1) * 4, none⟩)) ∧ Hid (L 11 = true → v118 = .agg #[.int .i64 a, .int .i64 b, .int .i64 c, .int .i64 d]) ∧ Hid (L 12 = true → v119 = .agg #[.int .i64 a, .int .i64 b, .int .i64 c, .int .i64 d]) ∧ (Four u g16 (o16 + (M - 1) * 4) a b c d ∧ At u g5 24 [.int .i64 (a), .int .i64 (b), .int .i64 (c), .int .i64 (d)] ∧ Below w.heap.size w u)) ?_ ?_ ?_
            · exact ⟨_, _, _, _, _, _, _, rfl, (Lib.hid fun h => by cases h), (Lib.hid fun h => by cases h), (Lib.hid fun h => by cases h), (Lib.hid fun h => by cases h), (Lib.hid fun h => by cases h), (Lib.hid fun h => by cases h), (Lib.hid fun h => by cases h), hW⟩
            · clear hW
              intro L a' u i hi1 hi2 hI hL hd
              obtain ⟨v113, v114, v115, v116, v117, v118, v119, rfl, k6, k7, k8, k9, k10, k11, k12, hW⟩ := hI
              obtain rfl | rfl | rfl | rfl | rfl | rfl | rfl := (show ∀ i : Nat, 6 ≤ i → i < 13 → (i = 6 ∨ i = 7 ∨ i = 8 ∨ i = 9 ∨ i = 10 ∨ i = 11 ∨ i = 12) by omega) i hi1 hi2
              · -- operation 6
                have HW := Lib.hid hW
                clear hW hL hd hi1 hi2
                refine wpOp_step rfl fun K hK => ?_
                go_simp
                refine hK _ _ ⟨_, _, _, _, _, _, _, rfl, (Lib.hid fun _ => rfl), k7, k8, k9, k10, k11, k12, HW.out⟩
              · -- operation 7
                have HW := Lib.hid hW
                clear hW hL hd hi1 hi2
                refine wpOp_step rfl fun K hK => ?_
                go_simp
                refine hK _ _ ⟨_, _, _, _, _, _, _, rfl, k6, (Lib.hid fun _ => rfl), k8, k9, k10, k11, k12, HW.out⟩
              · -- operation 8
                obtain rfl := k7.out (hd 7 (by decide))
                have HW := Lib.hid hW
                clear hW hL hd hi1 hi2
                refine wpOp_step rfl fun K hK => ?_
                go_simp
                refine hK _ _ ⟨_, _, _, _, _, _, _, rfl, k6, k7, (Lib.hid fun _ => rfl), k9, k10, k11, k12, HW.out⟩
              · -- operation 9
                obtain rfl := k8.out (hd 8 (by decide))
                have HW := Lib.hid hW
                clear hW hL hd hi1 hi2
                refine wpOp_step rfl fun K hK => ?_
                go_simp
                refine hK _ _ ⟨_, _, _, _, _, _, _, rfl, k6, k7, k8, (Lib.hid fun _ => rfl), k10, k11, k12, HW.out⟩
              · -- operation 10
                obtain rfl := k6.out (hd 6 (by decide))
                obtain rfl := k9.out (hd 9 (by decide))
                have HW := Lib.hid hW
                clear hW hL hd hi1 hi2
                refine wpOp_step rfl fun K hK => ?_
                go_simp
                refine hK _ _ ⟨_, _, _, _, _, _, _, rfl, k6, k7, k8, k9, (Lib.hid fun _ => rfl), k11, k12, HW.out⟩
              · -- operation 11
                obtain rfl := k10.out (hd 10 (by decide))
                obtain ⟨c0, c1, c2, c3⟩ := hW.1.2
                have HW := Lib.hid hW
                clear hW hL hd hi1 hi2
                refine wpOp_step rfl fun K hK => ?_
                go_simp
                refine hK _ _ ⟨_, _, _, _, _, _, _, rfl, k6, k7, k8, k9, k10, (Lib.hid fun _ => rfl), k12, HW.out⟩
              · -- operation 12
                obtain ⟨c0, c1, c2, c3⟩ := hW.2.1.four.1
                have HW := Lib.hid hW
                clear hW hL hd hi1 hi2
                refine wpOp_step rfl fun K hK => ?_
                go_simp
                refine hK _ _ ⟨_, _, _, _, _, _, _, rfl, k6, k7, k8, k9, k10, k11, (Lib.hid fun _ => rfl), HW.out⟩
            clear hW
            clear u
            intro L a' u hI hall
            obtain ⟨v113, v114, v115, v116, v117, v118, v119, rfl, k6, k7, k8, k9, k10, k11, k12, hW⟩ := hI
            obtain rfl := k6.out (hall 6 (by decide))
            obtain rfl := k7.out (hall 7 (by decide))
            obtain rfl := k8.out (hall 8 (by decide))
            obtain rfl := k9.out (hall 9 (by decide))
            obtain rfl := k10.out (hall 10 (by decide))
            obtain rfl := k11.out (hall 11 (by decide))
            obtain rfl := k12.out (hall 12 (by decide))
            clear k6 k7 k8 k9 k10 k11 k12 hall L
            -- operation 13 alone
            refine from_one' hTab 13 (by kernel_rfl) ?_
            have HW := Lib.hid hW
            clear hW
            refine wpOp_step rfl fun K hK => ?_
            go_simp
            refine hK _ _ ?_
            clear hK K
            have hW := HW.out
            clear HW
            -- operation 14 alone
            refine from_one' hTab 14 (by kernel_rfl) ?_
            have HW := Lib.hid hW
            clear hW
            refine wpOp_step rfl fun K hK => ?_
            go_simp
            refine hK _ _ ?_
            clear hK K
            have hW := HW.out
            clear HW
            -- operation 15 alone
            refine from_one' hTab 15 (by kernel_rfl) ?_
            have HW := Lib.hid hW
            clear hW
            refine wpOp_step rfl fun K hK => ?_
            go_simp
            refine hK _ _ ?_
            clear hK K
            have hW := HW.out
            clear HW
            -- operations 16 to 22
            refine from_block' hTab 16 23 (by decide) (by kernel_rfl)
              (fun L a' u => ∃ v123 v124 v125 v126 v127 v128 v129 : Value, a' = ⟨#[Value.slice A0 n0 c0, Value.slice A1 k c1, undef, undef, u4, .pointer (some ⟨g5, 0, none⟩), Value.slice A6 ix c6, undef, u8, Value.slice A9 M c9, .int .i64 ww, .int .i64 ↑ix, u12, u13, undef, u15, .slice (some ⟨g16, o16, none⟩) M c16, Value.slice A0 n0 c0, .agg #[.int .i64 a, .int .i64 b, .int .i64 c, .int .i64 d], .agg #[.int .i64 a, .int .i64 b, .int .i64 c, .int .i64 d], .slice (some ⟨g2, 0, none⟩) 4 4, .bool true, .bool false, .pointer (some ⟨g5, 0, none⟩), .int .i64 a, .slice (some ⟨w3.heap.size, 0, none⟩) 1 1, Value.slice A1 k c1, Value.slice A27 k c27, .int .i64 ↑k, .int .i64 ↑k, .bool false, u31, u32, u33, u34, u35, u36, u37, u38, u39, u40, u41, u42, u43, u44, u45, u46, u47, u6, .pointer (some ⟨g5, 2, none⟩), .int .i64 c, .slice (some ⟨wc.heap.size, 0, none⟩) 1 1, Value.slice A6 ix c6, .slice (some ⟨w5.heap.size, 0, none⟩) 0 0, .int .i64 ↑ix, Value.slice A6 ix c6, .int .i64 ↑ix, .bool false, u58, u59, u60, u61, u62, u63, u64, u65, u66, u67, u68, u69, u70, u71, u72, u73, u74, u75, u76, u77, u78, u79, u80, u81, u82, u83, u84, u85, u86, u87, u88, u89, u90, u91, u92, u93, u94, u95, u96, u97, u98, u99, u100, u101, u102, u103, u104, Value.slice A9 M c9, .slice (some ⟨g16, o16, none⟩) M c16, .slice (some ⟨g16, o16, none⟩) M c16, .int .i64 ↑M, Value.slice A9 M c9, .int .i64 ↑M, .bool true, .bool true, .slice (some ⟨g16, o16, none⟩) M c16, .slice (some ⟨g16, o16, none⟩) M c16, .int .i64 ↑M, .int .i64 (↑M - 1), .pointer (some ⟨g16, o16 + (M - 1) * 4, none⟩), .agg #[.int .i64 a, .int .i64 b, .int .i64 c, .int .i64 d], .agg #[.int .i64 a, .int .i64 b, .int .i64 c, .int .i64 d], .bool true, .bool true, .bool true, v123, v124, v125, v126, v127, v128, v129, undef, undef], []⟩ ∧
                Hid (L 16 = true → v123 = .int .i64 ww) ∧ Hid (L 17 = true → v124 = .agg #[.int .i64 0, .int .i64 0]) ∧ Hid (L 18 = true → v125 = .agg #[.int .i64 a, .int .i64 b, .int .i64 c, .int .i64 d]) ∧ Hid (L 19 = true → v126 = .agg #[.int .i64 a, .int .i64 b, .int .i64 c, .int .i64 d]) ∧ Hid (L 20 = true → v127 = .agg #[.bool t0, .bool t1, .bool t2, .bool t3, .bool t4, .int .i64 ww, .int .i64 t6]) ∧ Hid (L 21 = true → v128 = .agg #[.int .i64 ww, .int .i64 t6]) ∧ Hid (L 22 = true → v129 = .int .i64 ww) ∧ (Four u g16 (o16 + (M - 1) * 4) a b c d ∧ At u g5 24 [.int .i64 (a), .int .i64 (b), .int .i64 (c), .int .i64 (d)] ∧ Below w.heap.size w u)) ?_ ?_ ?_
            · exact ⟨_, _, _, _, _, _, _, rfl, (Lib.hid fun h => by cases h), (Lib.hid fun h => by cases h), (Lib.hid fun h => by cases h), (Lib.hid fun h => by cases h), (Lib.hid fun h => by cases h), (Lib.hid fun h => by cases h), (Lib.hid fun h => by cases h), hW⟩
            · clear hW
              intro L a' u i hi1 hi2 hI hL hd
              obtain ⟨v123, v124, v125, v126, v127, v128, v129, rfl, k16, k17, k18, k19, k20, k21, k22, hW⟩ := hI
              obtain rfl | rfl | rfl | rfl | rfl | rfl | rfl := (show ∀ i : Nat, 16 ≤ i → i < 23 → (i = 16 ∨ i = 17 ∨ i = 18 ∨ i = 19 ∨ i = 20 ∨ i = 21 ∨ i = 22) by omega) i hi1 hi2
              · -- operation 16
                have HW := Lib.hid hW
                clear hW hL hd hi1 hi2
                refine wpOp_step rfl fun K hK => ?_
                go_simp
                refine hK _ _ ⟨_, _, _, _, _, _, _, rfl, (Lib.hid fun _ => rfl), k17, k18, k19, k20, k21, k22, HW.out⟩
              · -- operation 17
                have HW := Lib.hid hW
                clear hW hL hd hi1 hi2
                refine wpOp_step rfl fun K hK => ?_
                go_simp
                refine hK _ _ ⟨_, _, _, _, _, _, _, rfl, k16, (Lib.hid fun _ => rfl), k18, k19, k20, k21, k22, HW.out⟩
              · -- operation 18
                obtain ⟨c0, c1, c2, c3⟩ := hW.2.1.four.1
                have HW := Lib.hid hW
                clear hW hL hd hi1 hi2
                refine wpOp_step rfl fun K hK => ?_
                go_simp
                refine hK _ _ ⟨_, _, _, _, _, _, _, rfl, k16, k17, (Lib.hid fun _ => rfl), k19, k20, k21, k22, HW.out⟩
              · -- operation 19
                obtain ⟨c0, c1, c2, c3⟩ := hW.2.1.four.1
                have HW := Lib.hid hW
                clear hW hL hd hi1 hi2
                refine wpOp_step rfl fun K hK => ?_
                go_simp
                refine hK _ _ ⟨_, _, _, _, _, _, _, rfl, k16, k17, k18, (Lib.hid fun _ => rfl), k20, k21, k22, HW.out⟩
              · -- operation 20
                obtain rfl := k17.out (hd 17 (by decide))
                obtain rfl := k18.out (hd 18 (by decide))
                obtain rfl := k19.out (hd 19 (by decide))
                have HW := Lib.hid hW
                clear hW hL hd hi1 hi2
                refine wpOp_step rfl fun K hK => ?_
                go_simp
                go_at_call 16
                refine (HTW.out _).mono ?_
                rintro _ w' ⟨rfl, hb⟩
                refine hK _ _ ⟨_, _, _, _, _, _, _, rfl, k16, k17, k18, k19, (Lib.hid fun _ => rfl), k21, k22, ⟨HW.out.1.by hb, HW.out.2.1.by hb, HW.out.2.2.trans (hb.mono HW.out.2.2.size)⟩⟩
              · -- operation 21
                obtain rfl := k20.out (hd 20 (by decide))
                have HW := Lib.hid hW
                clear hW hL hd hi1 hi2
                refine wpOp_step rfl fun K hK => ?_
                go_simp
                refine hK _ _ ⟨_, _, _, _, _, _, _, rfl, k16, k17, k18, k19, k20, (Lib.hid fun _ => rfl), k22, HW.out⟩
              · -- operation 22
                obtain rfl := k21.out (hd 21 (by decide))
                have HW := Lib.hid hW
                clear hW hL hd hi1 hi2
                refine wpOp_step rfl fun K hK => ?_
                go_simp
                refine hK _ _ ⟨_, _, _, _, _, _, _, rfl, k16, k17, k18, k19, k20, k21, (Lib.hid fun _ => rfl), HW.out⟩
            clear hW
            clear u
            intro L a' u hI hall
            obtain ⟨v123, v124, v125, v126, v127, v128, v129, rfl, k16, k17, k18, k19, k20, k21, k22, hW⟩ := hI
            obtain rfl := k16.out (hall 16 (by decide))
            obtain rfl := k17.out (hall 17 (by decide))
            obtain rfl := k18.out (hall 18 (by decide))
            obtain rfl := k19.out (hall 19 (by decide))
            obtain rfl := k20.out (hall 20 (by decide))
            obtain rfl := k21.out (hall 21 (by decide))
            obtain rfl := k22.out (hall 22 (by decide))
            clear k16 k17 k18 k19 k20 k21 k22 hall L
            -- operation 23 alone
            refine from_one' hTab 23 (by kernel_rfl) ?_
            have HW := Lib.hid hW
            clear hW
            refine wpOp_step rfl fun K hK => ?_
            go_simp
            refine hK _ _ ?_
            clear hK K
            have hW := HW.out
            clear HW
            -- operation 24 alone
            refine from_one' hTab 24 (by kernel_rfl) ?_
            have HW := Lib.hid hW
            clear hW
            refine wpOp_step rfl fun K hK => ?_
            go_simp
            refine hK _ _ ?_
            clear hK K
            have hW := HW.out
            clear HW
            -- operation 25 alone
            refine from_one' hTab 25 (by kernel_rfl) ?_
            have HW := Lib.hid hW
            clear hW
            refine wpOp_step rfl fun K hK => ?_
            go_simp
            refine hK _ _ ?_
            clear hK K
            have hW := HW.out
            clear HW
            refine from_end' hTab 26 (by kernel_rfl) ?_
            clear hTab
            have HW := Lib.hid hW
            clear hW
            go_wp2
            go_ret
            exact ⟨rfl, HW.out.2.2⟩
end Go.Proofs.Ytojplcchoffapaa
