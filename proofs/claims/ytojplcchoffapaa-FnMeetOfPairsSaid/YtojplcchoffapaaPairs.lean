/- The walk of FnMeetOfPairs. Conditions: at most 5864062014634 rows. -/
import Derived.Test.YtojplcchoffapaaJoin
import Derived.Test.YtojplcchoffapaaAppend
import Derived.Test.YtojplcchoffapaaHasP
import Derived.Test.YtojplcchoffapaaPlainHelly
import Derived.Test.YtojplcchoffapaaSpots
import Derived.Test.YtojplcchoffapaaCut
import Derived.Test.YtojplcchoffapaaBlocks
import Derived.Test.YtojplcchoffapaaTail
import Derived.Deep.DeepCutAuto
import Derived.Outline
namespace Go.Proofs.Ytojplcchoffapaa
open Go.RowKit

theorem tello (a b c d e f g h : Int) (v : Bool) (hv : R.over ⟨a, b, c, d⟩ ⟨e, f, g, h⟩ = v) : ∃ t0 t1 t3 t4 : Bool, ∃ t5 t6 : Int, ∀ w : World,
    Calls Try.prog 16 #[.agg #[.int .i64 0, .int .i64 0], .agg #[.int .i64 a, .int .i64 b, .int .i64 c, .int .i64 d], .agg #[.int .i64 e, .int .i64 f, .int .i64 g, .int .i64 h]] w fun x w' => x = .returned (.agg #[.bool t0, .bool t1, .bool v, .bool t3, .bool t4, .int .i64 t5, .int .i64 t6]) ∧ Below w.heap.size w w' := by
  subst hv
  exact ⟨_, _, _, _, _, _, fun w => tell_any 0 0 a b c d e f g h w⟩
theorem lempty_of (a b c d : Int) (v : Bool) (hv : R.empty ⟨a, b, c, d⟩ = v) (w : World) : Calls Try.prog 30 #[.agg #[.int .i64 a, .int .i64 b, .int .i64 c, .int .i64 d]] w fun x w' => x = .returned (.bool v) ∧ Below w.heap.size w w' := by
  subst hv
  exact lempty_any a b c d w
/-- those with points -/
def some_ (l : List R) : List R := l.filter fun r => !r.empty
theorem some_snoc (l : List R) (k : Nat) (h : k < l.length) : some_ (l.take (k + 1)) = if l[k].empty = true then some_ (l.take k) else some_ (l.take k) ++ [l[k]] := by
  unfold some_
  rw [List.take_succ_eq_append_getElem h, List.filter_append]
  cases he : l[k].empty <;> simp [he]
theorem some_length (l : List R) : (some_ l).length ≤ l.length := List.length_filter_le _ _
theorem some_ne (l : List R) : ∀ r ∈ some_ l, r.empty = false := fun r hr => by
  have := (List.mem_filter.1 hr).2
  simpa using this

def tab_pairs23 : List (List Nat) := [[], [], [1], [1, 2], [0, 1, 2, 3], [0, 1, 2, 3, 4], [0, 1, 2, 3, 4, 5], [], [7], [0, 1, 2, 3, 4, 5, 6, 7, 8], [0, 1, 2, 3, 4, 5, 6, 7, 8, 9], [0, 1, 2, 3, 4, 5, 6, 7, 8, 9, 10], [0, 1, 2, 3, 4, 5, 6, 7, 8, 9, 10], [0, 1, 2, 3, 4, 5, 6, 7, 8, 9, 10, 12], [0, 1, 2, 3, 4, 5, 6, 7, 8, 9, 10, 12, 13], [0, 1, 2, 3, 4, 5, 6, 7, 8, 9, 10], [0, 1, 2, 3, 4, 5, 6, 7, 8, 9, 10, 15], [0, 1, 2, 3, 4, 5, 6, 7, 8, 9, 10, 15, 16], [0, 1, 2, 3, 4, 5, 6, 7, 8, 9, 10, 11, 12, 13, 14, 15, 16, 17], [0, 1, 2, 3, 4, 5, 6, 7, 8, 9, 10, 11, 12, 13, 14, 15, 16, 17, 18], [0, 1, 2, 3, 4, 5, 6, 7, 8, 9, 10, 11, 12, 13, 14, 15, 16, 17, 18, 19], [0, 1, 2, 3, 4, 5, 6, 7, 8, 9, 10, 11, 12, 13, 14, 15, 16, 17, 18, 19, 20]]
set_option maxRecDepth 10000 in
set_option maxHeartbeats 8000000 in
theorem pairs_walk (A : Option Addr) (n c : Nat) (z : List (List Int)) (w : World) (h : RowsAt w A n z) (hn : n ≤ 5864062014634) :
    Calls Try.prog 12 #[.slice A n c] w fun e w' => e = .returned (.bool true) ∧ Below w.heap.size w w' := by
  have R1 := fun u hu => rects_any A n c z u hu hn
  obtain ⟨rs, hrs⟩ : ∃ rs, z.map rectOf = rs := ⟨_, rfl⟩
  have hlen : rs.length ≤ 5864062014634 := by rw [← hrs, List.length_map, h.1]; exact hn
  rw [hrs] at R1
  have HR := Lib.hid R1
  have H := Lib.hid h
  clear R1 h hrs
  go_enter Try.func12, Try.ntmps12
  go_wp2_with fail
  refine (HR.out _ (H.out.by ((Below.refl _ _).alloc (Nat.le_refl _) _))).mono ?_
  rintro _ w1 ⟨v14, rfl, ho14, hb1⟩
  obtain ⟨A14, c14, rfl, hR14⟩ := ho14.form
  have HB1 := Lib.hid (((Below.refl w.heap.size w).alloc (Nat.le_refl _) (.cells #[] 24)).trans (hb1.mono (by simp)))
  have HR14 := Lib.hid hR14
  have HO3 := Lib.hid ((own_empty w).by hb1)
  have HA14 : Hid (∀ g o, A14 = some ⟨g, o, none⟩ → w.heap.size + 1 ≤ g) := Lib.hid (by
    intro g o e
    subst e
    have := (World.ownsRow.lt ho14 g rfl).1
    rw [size_alloc] at this
    exact this)
  clear ho14 hR14 hb1 HR H
  go_wp2
  go_loopw [3, 16] (fun v i wr => ∃ k : Nat, k ≤ rs.length ∧ i = .int .i64 k ∧ Own wr w.heap.size v (some_ (rs.take k)) ∧ (∀ g o, A14 = some ⟨g, o, none⟩ → v.ownBlock ≠ some g) ∧ Rects wr A14 rs ∧ Below w.heap.size w wr) (fun _ i _ => rs.length - (intOf i).toNat)
  case atStart =>
    refine ⟨0, Nat.zero_le _, rfl, HO3.out, fun g o e e2 => ?_, HR14.out, HB1.out⟩
    have := HA14.out g o e
    simp [Value.ownBlock] at e2
    omega
  case round =>
    obtain ⟨k, hk, rfl, hown, hap, hR, hbel⟩ := hrel
    by_cases hlt : k < rs.length
    · obtain ⟨g14, o14, rfl, hg14, y0, y1, y2, y3⟩ := hR.at_ hlt
      have hsn := some_snoc rs k hlt
      have hll : (some_ (rs.take k)).length ≤ 5864062014634 := Nat.le_trans (some_length _) (by rw [List.length_take]; omega)
      generalize rs[k] = r at y0 y1 y2 y3 hsn
      obtain ⟨e, f, g', h'⟩ := r
      dsimp only at y0 y1 y2 y3
      generalize some_ (rs.take k) = l at hsn hll hown
      obtain ⟨em, hem⟩ : ∃ em, emptyB e f g' h' = em := ⟨_, rfl⟩
      have HE := Lib.hid hem
      have HI := Lib.hid (And.intro hown (And.intro (hap g14 o14 rfl) (And.intro hR hbel)))
      have HS := Lib.hid (And.intro hsn hll)
      clear hown hap hR hbel hsn hll hem
      go_wp2_with fail
      clear y0 y1 y2 y3
      refine (numbers_any _ _ _ _ _).mono ?_
      rintro _ w2 ⟨g2, rfl, hg2, hb2⟩
      have hP := haspoints_any g2 e f g' h' w2 hg2
      rw [HE.out] at hP
      have HP := Lib.hid hP
      have hb2' := ((Below.refl wr.heap.size wr).alloc (Nat.le_refl _) (.cells #[.int .i64 e, .int .i64 f, .int .i64 g', .int .i64 h'] 24)).trans (hb2.mono (by simp))
      have h5 := (At.new wr 24 [.int .i64 e, .int .i64 f, .int .i64 g', .int .i64 h']).by hb2
      have HB2 := Lib.hid (And.intro hb2' h5)
      clear hP hg2 hb2 hb2' h5
      go_wp2_with fail
      refine HP.out.mono ?_
      rintro _ w3 ⟨rfl, hb3⟩
      have hb3' := HB2.out.1.trans (hb3.mono HB2.out.1.size)
      have HJ := Lib.hid (And.intro (HI.out.1.by hb3') (And.intro (HI.out.2.2.1.by hb3') (And.intro (HB2.out.2.by hb3) (HI.out.2.2.2.trans (hb3'.mono HI.out.2.2.2.size)))))
      have hltg : g14 < w3.heap.size := by have := hb3'.size; omega
      clear hb3 hb3' HP HB2
      obtain ⟨y0, y1, y2, y3⟩ := HJ.out.2.2.1.four.1
      cases em with
      | true =>
        go_wp2
        go_roundw
        case rel =>
          refine ⟨k + 1, by omega, by go_num, ?_, fun g o e => ?_, HJ.out.2.1, HJ.out.2.2.2⟩
          · rw [HS.out.1, if_pos (show R.empty ⟨e, f, g', h'⟩ = true from HE.out)]
            exact HJ.out.1
          · simp only [Option.some.injEq, Addr.mk.injEq, and_true] at e
            rw [← e.1]
            exact HI.out.2.1
        case measure => simp [intOf]; omega
      | false =>
        go_wp2_with (at_builtin; refine append_rect_gr rfl (.tmp 23) (.tmp 25) rfl _ w.heap.size w3.heap.size _ l ⟨e, f, g', h'⟩ rfl (HJ.out.1.alloc _) rfl (At.new _ _ _) (by have := HS.out.2; omega) (by have := HJ.out.2.2.2.size; simp; omega) ?_; intro v6 w4 hown6 hgr6 hbl6 hb6)
        go_roundw
        case rel =>
          have hk6 : v6.ownBlock ≠ some g14 := by
            rcases hbl6 with e | e
            · rw [e]; exact HI.out.2.1
            · rw [e]; intro e2; injection e2 with e2; simp at e2; omega
          refine ⟨k + 1, by omega, by go_num, ?_, fun g o e => ?_, (HJ.out.2.1.alloc _).grown hgr6 (fun g o e => ?_), (HJ.out.2.2.2.alloc HJ.out.2.2.2.size _).trans hb6⟩
          · rw [HS.out.1, if_neg (fun h => by have := HE.out.symm.trans (show emptyB e f g' h' = true from h); cases this)]
            exact hown6
          · simp only [Option.some.injEq, Addr.mk.injEq, and_true] at e
            rw [← e.1]
            exact hk6
          · simp only [Option.some.injEq, Addr.mk.injEq, and_true] at e
            rw [← e.1]
            exact HI.out.2.1
        case measure => simp [intOf]; omega
    · obtain rfl : k = rs.length := by omega
      rw [List.take_length] at hown
      have hne := some_ne rs
      have hll : (some_ rs).length ≤ 5864062014634 := Nat.le_trans (some_length _) hlen
      generalize some_ rs = l at hown hne hll
      obtain ⟨A3, c3, rfl, hR3, hc3, hcap3, -⟩ := own_left (l := l) (by rw [List.nil_append]; exact hown)
      obtain ⟨M, hM⟩ : ∃ M, l.length = M := ⟨_, rfl⟩
      have J1' := fun u hu => meet_any A3 c3 l u hu (by omega)
      rw [hM] at J1' hll hcap3 ⊢
      have HJ := Lib.hid J1'
      have HR3 := Lib.hid hR3
      have HB := Lib.hid hbel
      have HM := Lib.hid (And.intro hM hne)
      clear hown hap hR hbel hR3 hM hne J1' HR14 HO3 HA14
      go_wp2_with fail
      refine (HJ.out _ HR3.out).mono ?_
      rintro _ w2 ⟨v6, rfl, ho6, hb2⟩
      obtain ⟨A6, c6, rfl, hR6⟩ := ho6.form
      rw [accs_length]
      have HR6 := Lib.hid (And.intro hR6 (HR3.out.by hb2))
      have HB2 := Lib.hid (HB.out.trans (hb2.mono HB.out.size))
      clear ho6 hR6 hb2 HR3 HB HJ
      by_cases h0 : M = 0
      · have b0 : ((M : Int) == 0) = true := by rw [h0]; rfl
        have b1 : (M == 0) = true := by rw [h0]; rfl
        clear h0
        go_wp2
        go_ret
        exact ⟨rfl, HB2.out⟩
      have b0 : ((M : Int) == 0) = false := beq_eq_false_iff_ne.2 (by omega)
      have b1 : (M == 0) = false := beq_eq_false_iff_ne.2 h0
      obtain ⟨g3, o3, rfl, hg3⟩ := HR6.out.2.addr (by rw [HM.out.1]; omega)
      obtain ⟨g6, o6, rfl, hg6⟩ := HR6.out.1.addr (by rw [accs_length]; omega)
      go_wp2
      go_loopw [7, 40] (fun pv i wr => ∃ k : Nat, k ≤ M ∧ i = .int .i64 k ∧ pv = .bool (pairsTo l k) ∧ Below w2.heap.size w2 wr) (fun _ i _ => M - (intOf i).toNat)
      case atStart => exact ⟨0, Nat.zero_le _, rfl, rfl, Below.refl _ _⟩
      case round =>
        obtain ⟨k, hk2, rfl, rfl, hbel⟩ := hrel
        by_cases hlt : k < M
        · have hRk := HR6.out.2.by hbel
          obtain ⟨⟨p, q, s, t⟩, hv⟩ : ∃ v, l[k]'(by rw [HM.out.1]; exact hlt) = v := ⟨_, rfl⟩
          obtain ⟨y0, y1, y2, y3⟩ := hRk.cells (i := k) (by rw [HM.out.1]; exact hlt) hv
          have HV := Lib.hid (show l.getD k ⟨0, 0, 0, 0⟩ = ⟨p, q, s, t⟩ by rw [← hv]; simp [HM.out.1, hlt])
          have HBO := Lib.hid hbel
          have HRK := Lib.hid hRk
          obtain ⟨pb, hpb⟩ : ∃ pb, pairsTo l k = pb := ⟨_, rfl⟩
          have HPB := Lib.hid hpb
          rw [hpb]
          clear hv hbel hRk hpb
          have hkc : k ≤ c3 := by omega
          go_upto_region 17 with fail
          clear y0 y1 y2 y3
          obtain ⟨wo, hwo⟩ : ∃ wo, wo = wr.alloc (.cells #[.int .i64 p, .int .i64 q, .int .i64 s, .int .i64 t] 24) := ⟨_, rfl⟩
          rw [← hwo]
          have h9 : At wo wr.heap.size 24 [.int .i64 p, .int .i64 q, .int .i64 s, .int .i64 t] := by rw [hwo]; exact At.new _ _ _
          have hBo : Below wr.heap.size wr wo := by rw [hwo]; exact (Below.refl _ _).alloc (Nat.le_refl _) _
          have HRO := Lib.hid (HRK.out.by hBo)
          have HBO2 := Lib.hid (HBO.out.trans (hBo.mono HBO.out.size))
          obtain ⟨g9, hg9⟩ : ∃ g9, g9 = wr.heap.size := ⟨_, rfl⟩
          rw [← hg9] at h9 ⊢
          have H9 := Lib.hid h9
          clear hwo hBo hg9 h9 HRK HBO
          go_wp2
          go_loopw [7, 49] (fun pv i wr => ∃ j : Nat, j ≤ k ∧ i = .int .i64 j ∧ pv = .bool (pb && rowTo l k j) ∧ Below wo.heap.size wo wr) (fun _ i _ => k - (intOf i).toNat)
          case atStart => exact ⟨0, Nat.zero_le _, rfl, by rw [rowTo_zero, Bool.and_true], Below.refl _ _⟩
          case round =>
            obtain ⟨j, hj, rfl, rfl, hbel⟩ := hrel
            by_cases hltj : j < k
            · obtain ⟨⟨p', q', s', t'⟩, hv⟩ : ∃ v, l[j]'(by rw [HM.out.1]; omega) = v := ⟨_, rfl⟩
              obtain ⟨y0, y1, y2, y3⟩ := (HRO.out.by hbel).cells (i := j) (by rw [HM.out.1]; omega) hv
              have hv2 : l.getD j ⟨0, 0, 0, 0⟩ = ⟨p', q', s', t'⟩ := by rw [← hv]; simp [HM.out.1, show j < M by omega]
              have hs := rowTo_succ l k j
              rw [HV.out, hv2] at hs
              obtain ⟨ov, hov⟩ : ∃ ov, R.over ⟨p, q, s, t⟩ ⟨p', q', s', t'⟩ = ov := ⟨_, rfl⟩
              rw [hov] at hs
              obtain ⟨rb, hrb⟩ : ∃ rb, (pb && rowTo l k j) = rb := ⟨_, rfl⟩
              have HS := Lib.hid (show (pb && rowTo l k (j + 1)) = (rb && ov) by rw [hs, ← Bool.and_assoc, hrb])
              rw [hrb]
              obtain ⟨t0, t1, t3, t4, t5, t6, htell⟩ := tello p q s t p' q' s' t' ov hov
              have HT := Lib.hid htell
              have HBL := Lib.hid hbel
              have h9 := (H9.out.by hbel)
              have h9lt := h9.lt
              obtain ⟨x0, x1, x2, x3⟩ := h9.four.1
              clear hv hv2 hs hov hrb htell hbel h9
              have hf := told2
              cases rb with
              | false =>
                go_wp2
                go_roundw
                case rel => exact ⟨j + 1, by omega, by go_num, by rw [HS.out]; rfl, HBL.out.alloc HBL.out.size _⟩
                case measure => simp [intOf]; omega
              | true =>
                go_wp2_with fail
                refine (HT.out _).mono ?_
                rintro _ w5 ⟨rfl, hb5⟩
                have HB5 := Lib.hid ((HBL.out.alloc HBL.out.size (.cells #[.int .i64 p', .int .i64 q', .int .i64 s', .int .i64 t'] 24)).trans (hb5.mono (by rw [size_alloc]; have := HBL.out.size; omega)))
                clear hb5 x0 x1 x2 x3 y0 y1 y2 y3
                go_wp2
                go_roundw
                case rel => exact ⟨j + 1, by omega, by go_num, by rw [HS.out]; rfl, HB5.out⟩
                case measure => simp [intOf]; omega
            · obtain rfl : j = k := by omega
              have HBL := Lib.hid hbel
              clear hbel
              go_wp2
              go_roundw
              case rel => exact ⟨j + 1, by omega, by go_num, by rw [pairsTo_succ, HPB.out], HBO2.out.trans (HBL.out.mono HBO2.out.size)⟩
              case measure => simp [intOf]; omega
        · obtain rfl : k = M := by omega
          have HBO := Lib.hid hbel
          obtain ⟨⟨p, q, s, t⟩, hv⟩ : ∃ v, acc inter l = v := ⟨_, rfl⟩
          have hh := helly HM.out.2 (by rw [HM.out.1]; omega)
          rw [HM.out.1, hv] at hh
          have m1 := (accs_get inter l k (k - 1) (by omega)).trans (show acc inter (l.take (k - 1 + 1)) = ⟨p, q, s, t⟩ by rw [show k - 1 + 1 = k by omega, List.take_of_length_le (by rw [HM.out.1]; exact Nat.le_refl _)]; exact hv)
          obtain ⟨⟨p', q', s', t'⟩, hv0⟩ : ∃ v, l[0]'(by rw [HM.out.1]; omega) = v := ⟨_, rfl⟩
          have hov : R.over ⟨p', q', s', t'⟩ ⟨p', q', s', t'⟩ = true := by
            have h1 := HM.out.2 ⟨p', q', s', t'⟩ (hv0 ▸ List.getElem_mem _)
            rw [nonempty_iff] at h1
            rw [over_iff]
            dsimp only at h1 ⊢
            omega
          obtain ⟨t0, t1, t3, t4, t5, t6, htell⟩ := tello p' q' s' t' p' q' s' t' true hov
          have f0 := HR6.out.2.four (i := 0) (by rw [HM.out.1]; omega) hv0 hg3
          simp only [Nat.zero_mul, Nat.add_zero] at f0
          have HF := Lib.hid (And.intro ((HR6.out.1.four (i := k - 1) (by rw [accs_length]; omega) m1 hg6).by hbel) (f0.by hbel))
          have HT := Lib.hid htell
          have x1 : IntKind.i64.wrap ((k : Int) - 1) = (k : Int) - 1 := IntWalk.i64_in _ (by omega)
          have x2 : 0 ≤ (k : Int) - 1 := by omega
          have x3 : (k : Int) - 1 < k := by omega
          have x4 : ((k : Int) - 1).toNat = k - 1 := by omega
          have x5 : 1 ≤ (k : Int) := by omega
          have x6 : 1 ≤ k := by omega
          have x7 : 0 < k := by omega
          obtain ⟨pb, hpb⟩ : ∃ pb, pairsTo l k = pb := ⟨_, rfl⟩
          rw [hpb] at hh ⊢
          have HEM := Lib.hid hh
          clear hv hh m1 hv0 hov htell f0 hbel hpb h0 b0 b1
          cases pb with
          | true =>
            have HE := Lib.hid (fun u => lempty_of p q s t false HEM.out u)
            go_wp2_with fail
            refine from_table tab_pairs23 (by kernel_rfl) (by kernel_rfl) (by kernel_rfl) (by kernel_rfl) fun hTab => ?_
            refine from_gen (fun u => Below wr.heap.size wr u) ?_ ?_
            · exact (Below.refl _ _).drew
            intro u hW
            -- operations 0 to 8
            refine from_block' hTab 0 9 (by decide) (by kernel_rfl)
              (fun L a' u => ∃ v63 v64 v65 v66 v67 v68 v69 v70 v71 : Value, a' = ⟨#[Value.slice A n c, undef, .bool false, .slice (some ⟨g3, o3, none⟩) k c3, undef, u5, .slice (some ⟨g6, o6, none⟩) k c6, .bool true, u8, u9, undef, u11, .slice (some ⟨w.heap.size, 0, none⟩) 0 0, Value.slice A n c, Value.slice A14 rs.length c14, .int .i64 ↑rs.length, .int .i64 ↑rs.length, .bool false, u18, u19, u20, u21, u22, u23, u24, u25, u26, u27, .slice (some ⟨g3, o3, none⟩) k c3, .slice (some ⟨g6, o6, none⟩) k c6, .slice (some ⟨g6, o6, none⟩) k c6, .int .i64 ↑k, .slice (some ⟨g3, o3, none⟩) k c3, .int .i64 ↑k, .bool false, .slice (some ⟨g3, o3, none⟩) k c3, .int .i64 ↑k, .bool false, .slice (some ⟨g3, o3, none⟩) k c3, .int .i64 ↑k, .int .i64 ↑k, .bool false, u42, u43, u44, u45, u46, u47, u48, u49, u50, u51, u52, u53, u54, u55, u56, u57, u58, u59, u60, u61, u62, v63, v64, v65, v66, v67, v68, v69, v70, v71, undef, undef, undef, undef, undef, undef, undef, undef, undef, undef, undef, undef], []⟩ ∧
                Hid (L 0 = true → v63 = .slice (some ⟨g6, o6, none⟩) k c6) ∧ Hid (L 1 = true → v64 = .slice (some ⟨g6, o6, none⟩) k c6) ∧ Hid (L 2 = true → v65 = .int .i64 ↑k) ∧ Hid (L 3 = true → v66 = .int .i64 (↑k - 1)) ∧ Hid (L 4 = true → v67 = .pointer (some ⟨g6, o6 + (k - 1) * 4, none⟩)) ∧ Hid (L 5 = true → v68 = .agg #[.int .i64 p, .int .i64 q, .int .i64 s, .int .i64 t]) ∧ Hid (L 6 = true → v69 = .bool false) ∧ Hid (L 7 = true → v70 = .bool true) ∧ Hid (L 8 = true → v71 = .bool false) ∧ (Below wr.heap.size wr u)) ?_ ?_ ?_
            · exact ⟨_, _, _, _, _, _, _, _, _, rfl, (Lib.hid fun h => by cases h), (Lib.hid fun h => by cases h), (Lib.hid fun h => by cases h), (Lib.hid fun h => by cases h), (Lib.hid fun h => by cases h), (Lib.hid fun h => by cases h), (Lib.hid fun h => by cases h), (Lib.hid fun h => by cases h), (Lib.hid fun h => by cases h), hW⟩
            · clear hW
              intro L a' u i hi1 hi2 hI hL hd
              obtain ⟨v63, v64, v65, v66, v67, v68, v69, v70, v71, rfl, k0, k1, k2, k3, k4, k5, k6, k7, k8, hW⟩ := hI
              obtain rfl | rfl | rfl | rfl | rfl | rfl | rfl | rfl | rfl := (show ∀ i : Nat, 0 ≤ i → i < 9 → (i = 0 ∨ i = 1 ∨ i = 2 ∨ i = 3 ∨ i = 4 ∨ i = 5 ∨ i = 6 ∨ i = 7 ∨ i = 8) by omega) i hi1 hi2
              · -- operation 0
                have HW := Lib.hid hW
                clear hW hL hd hi1 hi2
                refine wpOp_step rfl fun K hK => ?_
                go_simp
                refine hK _ _ ⟨_, _, _, _, _, _, _, _, _, rfl, (Lib.hid fun _ => rfl), k1, k2, k3, k4, k5, k6, k7, k8, HW.out⟩
              · -- operation 1
                have HW := Lib.hid hW
                clear hW hL hd hi1 hi2
                refine wpOp_step rfl fun K hK => ?_
                go_simp
                refine hK _ _ ⟨_, _, _, _, _, _, _, _, _, rfl, k0, (Lib.hid fun _ => rfl), k2, k3, k4, k5, k6, k7, k8, HW.out⟩
              · -- operation 2
                obtain rfl := k1.out (hd 1 (by decide))
                have HW := Lib.hid hW
                clear hW hL hd hi1 hi2
                refine wpOp_step rfl fun K hK => ?_
                go_simp
                refine hK _ _ ⟨_, _, _, _, _, _, _, _, _, rfl, k0, k1, (Lib.hid fun _ => rfl), k3, k4, k5, k6, k7, k8, HW.out⟩
              · -- operation 3
                obtain rfl := k2.out (hd 2 (by decide))
                have HW := Lib.hid hW
                clear hW hL hd hi1 hi2
                refine wpOp_step rfl fun K hK => ?_
                go_simp
                refine hK _ _ ⟨_, _, _, _, _, _, _, _, _, rfl, k0, k1, k2, (Lib.hid fun _ => rfl), k4, k5, k6, k7, k8, HW.out⟩
              · -- operation 4
                obtain rfl := k0.out (hd 0 (by decide))
                obtain rfl := k3.out (hd 3 (by decide))
                have HW := Lib.hid hW
                clear hW hL hd hi1 hi2
                refine wpOp_step rfl fun K hK => ?_
                go_simp
                refine hK _ _ ⟨_, _, _, _, _, _, _, _, _, rfl, k0, k1, k2, k3, (Lib.hid fun _ => rfl), k5, k6, k7, k8, HW.out⟩
              · -- operation 5
                obtain rfl := k4.out (hd 4 (by decide))
                obtain ⟨c0, c1, c2, c3⟩ := (HF.out.1.by hW).2
                have HW := Lib.hid hW
                clear hW hL hd hi1 hi2
                refine wpOp_step rfl fun K hK => ?_
                go_simp
                refine hK _ _ ⟨_, _, _, _, _, _, _, _, _, rfl, k0, k1, k2, k3, k4, (Lib.hid fun _ => rfl), k6, k7, k8, HW.out⟩
              · -- operation 6
                obtain rfl := k5.out (hd 5 (by decide))
                have HW := Lib.hid hW
                clear hW hL hd hi1 hi2
                refine wpOp_step rfl fun K hK => ?_
                go_simp
                go_at_call 30
                refine (HE.out _).mono ?_
                rintro _ w' ⟨rfl, hb⟩
                refine hK _ _ ⟨_, _, _, _, _, _, _, _, _, rfl, k0, k1, k2, k3, k4, k5, (Lib.hid fun _ => rfl), k7, k8, HW.out.trans (hb.mono HW.out.size)⟩
              · -- operation 7
                have HW := Lib.hid hW
                clear hW hL hd hi1 hi2
                refine wpOp_step rfl fun K hK => ?_
                go_simp
                refine hK _ _ ⟨_, _, _, _, _, _, _, _, _, rfl, k0, k1, k2, k3, k4, k5, k6, (Lib.hid fun _ => rfl), k8, HW.out⟩
              · -- operation 8
                obtain rfl := k7.out (hd 7 (by decide))
                have HW := Lib.hid hW
                clear hW hL hd hi1 hi2
                refine wpOp_step rfl fun K hK => ?_
                go_simp
                refine hK _ _ ⟨_, _, _, _, _, _, _, _, _, rfl, k0, k1, k2, k3, k4, k5, k6, k7, (Lib.hid fun _ => rfl), HW.out⟩
            clear hW
            clear u
            intro L a' u hI hall
            obtain ⟨v63, v64, v65, v66, v67, v68, v69, v70, v71, rfl, k0, k1, k2, k3, k4, k5, k6, k7, k8, hW⟩ := hI
            obtain rfl := k0.out (hall 0 (by decide))
            obtain rfl := k1.out (hall 1 (by decide))
            obtain rfl := k2.out (hall 2 (by decide))
            obtain rfl := k3.out (hall 3 (by decide))
            obtain rfl := k4.out (hall 4 (by decide))
            obtain rfl := k5.out (hall 5 (by decide))
            obtain rfl := k6.out (hall 6 (by decide))
            obtain rfl := k7.out (hall 7 (by decide))
            obtain rfl := k8.out (hall 8 (by decide))
            clear k0 k1 k2 k3 k4 k5 k6 k7 k8 hall L
            -- operation 9 alone
            refine from_one' hTab 9 (by kernel_rfl) ?_
            have HW := Lib.hid hW
            clear hW
            refine wpOp_step rfl fun K hK => ?_
            go_simp
            refine hK _ _ ?_
            clear hK K
            have hW := HW.out
            clear HW
            -- operation 10 alone
            refine from_one' hTab 10 (by kernel_rfl) ?_
            have HW := Lib.hid hW
            clear hW
            refine wpOp_step rfl fun K hK => ?_
            go_simp
            refine hK _ _ ?_
            clear hK K
            have hW := HW.out
            clear HW
            -- operations 11 to 17
            refine from_block' hTab 11 18 (by decide) (by kernel_rfl)
              (fun L a' u => ∃ v74 v75 v76 v77 v78 v79 v80 : Value, a' = ⟨#[Value.slice A n c, undef, .bool false, .slice (some ⟨g3, o3, none⟩) k c3, undef, u5, .slice (some ⟨g6, o6, none⟩) k c6, .bool true, u8, u9, undef, u11, .slice (some ⟨w.heap.size, 0, none⟩) 0 0, Value.slice A n c, Value.slice A14 rs.length c14, .int .i64 ↑rs.length, .int .i64 ↑rs.length, .bool false, u18, u19, u20, u21, u22, u23, u24, u25, u26, u27, .slice (some ⟨g3, o3, none⟩) k c3, .slice (some ⟨g6, o6, none⟩) k c6, .slice (some ⟨g6, o6, none⟩) k c6, .int .i64 ↑k, .slice (some ⟨g3, o3, none⟩) k c3, .int .i64 ↑k, .bool false, .slice (some ⟨g3, o3, none⟩) k c3, .int .i64 ↑k, .bool false, .slice (some ⟨g3, o3, none⟩) k c3, .int .i64 ↑k, .int .i64 ↑k, .bool false, u42, u43, u44, u45, u46, u47, u48, u49, u50, u51, u52, u53, u54, u55, u56, u57, u58, u59, u60, u61, u62, .slice (some ⟨g6, o6, none⟩) k c6, .slice (some ⟨g6, o6, none⟩) k c6, .int .i64 ↑k, .int .i64 (↑k - 1), .pointer (some ⟨g6, o6 + (k - 1) * 4, none⟩), .agg #[.int .i64 p, .int .i64 q, .int .i64 s, .int .i64 t], .bool false, .bool true, .bool false, .bool true, .bool true, v74, v75, v76, v77, v78, v79, v80, undef, undef, undef], []⟩ ∧
                Hid (L 11 = true → v74 = .agg #[.int .i64 0, .int .i64 0]) ∧ Hid (L 12 = true → v75 = .slice (some ⟨g3, o3, none⟩) k c3) ∧ Hid (L 13 = true → v76 = .pointer (some ⟨g3, o3, none⟩)) ∧ Hid (L 14 = true → v77 = .agg #[.int .i64 p', .int .i64 q', .int .i64 s', .int .i64 t']) ∧ Hid (L 15 = true → v78 = .slice (some ⟨g3, o3, none⟩) k c3) ∧ Hid (L 16 = true → v79 = .pointer (some ⟨g3, o3, none⟩)) ∧ Hid (L 17 = true → v80 = .agg #[.int .i64 p', .int .i64 q', .int .i64 s', .int .i64 t']) ∧ (Below wr.heap.size wr u)) ?_ ?_ ?_
            · exact ⟨_, _, _, _, _, _, _, rfl, (Lib.hid fun h => by cases h), (Lib.hid fun h => by cases h), (Lib.hid fun h => by cases h), (Lib.hid fun h => by cases h), (Lib.hid fun h => by cases h), (Lib.hid fun h => by cases h), (Lib.hid fun h => by cases h), hW⟩
            · clear hW
              intro L a' u i hi1 hi2 hI hL hd
              obtain ⟨v74, v75, v76, v77, v78, v79, v80, rfl, k11, k12, k13, k14, k15, k16, k17, hW⟩ := hI
              obtain rfl | rfl | rfl | rfl | rfl | rfl | rfl := (show ∀ i : Nat, 11 ≤ i → i < 18 → (i = 11 ∨ i = 12 ∨ i = 13 ∨ i = 14 ∨ i = 15 ∨ i = 16 ∨ i = 17) by omega) i hi1 hi2
              · -- operation 11
                have HW := Lib.hid hW
                clear hW hL hd hi1 hi2
                refine wpOp_step rfl fun K hK => ?_
                go_simp
                refine hK _ _ ⟨_, _, _, _, _, _, _, rfl, (Lib.hid fun _ => rfl), k12, k13, k14, k15, k16, k17, HW.out⟩
              · -- operation 12
                have HW := Lib.hid hW
                clear hW hL hd hi1 hi2
                refine wpOp_step rfl fun K hK => ?_
                go_simp
                refine hK _ _ ⟨_, _, _, _, _, _, _, rfl, k11, (Lib.hid fun _ => rfl), k13, k14, k15, k16, k17, HW.out⟩
              · -- operation 13
                obtain rfl := k12.out (hd 12 (by decide))
                have HW := Lib.hid hW
                clear hW hL hd hi1 hi2
                refine wpOp_step rfl fun K hK => ?_
                go_simp
                refine hK _ _ ⟨_, _, _, _, _, _, _, rfl, k11, k12, (Lib.hid fun _ => rfl), k14, k15, k16, k17, HW.out⟩
              · -- operation 14
                obtain rfl := k13.out (hd 13 (by decide))
                obtain ⟨c0, c1, c2, c3⟩ := (HF.out.2.by hW).2
                have HW := Lib.hid hW
                clear hW hL hd hi1 hi2
                refine wpOp_step rfl fun K hK => ?_
                go_simp
                refine hK _ _ ⟨_, _, _, _, _, _, _, rfl, k11, k12, k13, (Lib.hid fun _ => rfl), k15, k16, k17, HW.out⟩
              · -- operation 15
                have HW := Lib.hid hW
                clear hW hL hd hi1 hi2
                refine wpOp_step rfl fun K hK => ?_
                go_simp
                refine hK _ _ ⟨_, _, _, _, _, _, _, rfl, k11, k12, k13, k14, (Lib.hid fun _ => rfl), k16, k17, HW.out⟩
              · -- operation 16
                obtain rfl := k15.out (hd 15 (by decide))
                have HW := Lib.hid hW
                clear hW hL hd hi1 hi2
                refine wpOp_step rfl fun K hK => ?_
                go_simp
                refine hK _ _ ⟨_, _, _, _, _, _, _, rfl, k11, k12, k13, k14, k15, (Lib.hid fun _ => rfl), k17, HW.out⟩
              · -- operation 17
                obtain rfl := k16.out (hd 16 (by decide))
                obtain ⟨c0, c1, c2, c3⟩ := (HF.out.2.by hW).2
                have HW := Lib.hid hW
                clear hW hL hd hi1 hi2
                refine wpOp_step rfl fun K hK => ?_
                go_simp
                refine hK _ _ ⟨_, _, _, _, _, _, _, rfl, k11, k12, k13, k14, k15, k16, (Lib.hid fun _ => rfl), HW.out⟩
            clear hW
            clear u
            intro L a' u hI hall
            obtain ⟨v74, v75, v76, v77, v78, v79, v80, rfl, k11, k12, k13, k14, k15, k16, k17, hW⟩ := hI
            obtain rfl := k11.out (hall 11 (by decide))
            obtain rfl := k12.out (hall 12 (by decide))
            obtain rfl := k13.out (hall 13 (by decide))
            obtain rfl := k14.out (hall 14 (by decide))
            obtain rfl := k15.out (hall 15 (by decide))
            obtain rfl := k16.out (hall 16 (by decide))
            obtain rfl := k17.out (hall 17 (by decide))
            clear k11 k12 k13 k14 k15 k16 k17 hall L
            -- operation 18 alone
            refine from_one' hTab 18 (by kernel_rfl) ?_
            have HW := Lib.hid hW
            clear hW
            refine wpOp_step rfl fun K hK => ?_
            go_simp
            go_at_call 16
            refine (HT.out _).mono ?_
            rintro _ w' ⟨rfl, hb⟩
            refine hK _ _ ?_
            clear hK K
            refine from_gen (fun u => (Below wr.heap.size wr u)) (HW.out.trans (hb.mono HW.out.size)) ?_
            clear hb HW
            intro u hW
            -- operation 19 alone
            refine from_one' hTab 19 (by kernel_rfl) ?_
            have HW := Lib.hid hW
            clear hW
            refine wpOp_step rfl fun K hK => ?_
            go_simp
            refine hK _ _ ?_
            clear hK K
            have hW := HW.out
            clear HW
            -- operation 20 alone
            refine from_one' hTab 20 (by kernel_rfl) ?_
            have HW := Lib.hid hW
            clear hW
            refine wpOp_step rfl fun K hK => ?_
            go_simp
            refine hK _ _ ?_
            clear hK K
            have hW := HW.out
            clear HW
            -- operation 21 alone
            refine from_one' hTab 21 (by kernel_rfl) ?_
            have HW := Lib.hid hW
            clear hW
            refine wpOp_step rfl fun K hK => ?_
            go_simp
            refine hK _ _ ?_
            clear hK K
            have hW := HW.out
            clear HW
            refine from_end' hTab 22 (by kernel_rfl) ?_
            clear hTab
            have HW := Lib.hid hW
            clear hW
            go_wp2
            go_ret
            exact ⟨rfl, HB2.out.trans ((HBO.out.trans (HW.out.mono HBO.out.size)).mono HB2.out.size)⟩
          | false =>
            have HE := Lib.hid (fun u => lempty_of p q s t true HEM.out u)
            go_wp2_with fail
            refine from_table tab_pairs23 (by kernel_rfl) (by kernel_rfl) (by kernel_rfl) (by kernel_rfl) fun hTab => ?_
            refine from_gen (fun u => Below wr.heap.size wr u) ?_ ?_
            · exact (Below.refl _ _).drew
            intro u hW
            -- operations 0 to 8
            refine from_block' hTab 0 9 (by decide) (by kernel_rfl)
              (fun L a' u => ∃ v63 v64 v65 v66 v67 v68 v69 v70 v71 : Value, a' = ⟨#[Value.slice A n c, undef, .bool false, .slice (some ⟨g3, o3, none⟩) k c3, undef, u5, .slice (some ⟨g6, o6, none⟩) k c6, .bool false, u8, u9, undef, u11, .slice (some ⟨w.heap.size, 0, none⟩) 0 0, Value.slice A n c, Value.slice A14 rs.length c14, .int .i64 ↑rs.length, .int .i64 ↑rs.length, .bool false, u18, u19, u20, u21, u22, u23, u24, u25, u26, u27, .slice (some ⟨g3, o3, none⟩) k c3, .slice (some ⟨g6, o6, none⟩) k c6, .slice (some ⟨g6, o6, none⟩) k c6, .int .i64 ↑k, .slice (some ⟨g3, o3, none⟩) k c3, .int .i64 ↑k, .bool false, .slice (some ⟨g3, o3, none⟩) k c3, .int .i64 ↑k, .bool false, .slice (some ⟨g3, o3, none⟩) k c3, .int .i64 ↑k, .int .i64 ↑k, .bool false, u42, u43, u44, u45, u46, u47, u48, u49, u50, u51, u52, u53, u54, u55, u56, u57, u58, u59, u60, u61, u62, v63, v64, v65, v66, v67, v68, v69, v70, v71, undef, undef, undef, undef, undef, undef, undef, undef, undef, undef, undef, undef], []⟩ ∧
                Hid (L 0 = true → v63 = .slice (some ⟨g6, o6, none⟩) k c6) ∧ Hid (L 1 = true → v64 = .slice (some ⟨g6, o6, none⟩) k c6) ∧ Hid (L 2 = true → v65 = .int .i64 ↑k) ∧ Hid (L 3 = true → v66 = .int .i64 (↑k - 1)) ∧ Hid (L 4 = true → v67 = .pointer (some ⟨g6, o6 + (k - 1) * 4, none⟩)) ∧ Hid (L 5 = true → v68 = .agg #[.int .i64 p, .int .i64 q, .int .i64 s, .int .i64 t]) ∧ Hid (L 6 = true → v69 = .bool true) ∧ Hid (L 7 = true → v70 = .bool false) ∧ Hid (L 8 = true → v71 = .bool true) ∧ (Below wr.heap.size wr u)) ?_ ?_ ?_
            · exact ⟨_, _, _, _, _, _, _, _, _, rfl, (Lib.hid fun h => by cases h), (Lib.hid fun h => by cases h), (Lib.hid fun h => by cases h), (Lib.hid fun h => by cases h), (Lib.hid fun h => by cases h), (Lib.hid fun h => by cases h), (Lib.hid fun h => by cases h), (Lib.hid fun h => by cases h), (Lib.hid fun h => by cases h), hW⟩
            · clear hW
              intro L a' u i hi1 hi2 hI hL hd
              obtain ⟨v63, v64, v65, v66, v67, v68, v69, v70, v71, rfl, k0, k1, k2, k3, k4, k5, k6, k7, k8, hW⟩ := hI
              obtain rfl | rfl | rfl | rfl | rfl | rfl | rfl | rfl | rfl := (show ∀ i : Nat, 0 ≤ i → i < 9 → (i = 0 ∨ i = 1 ∨ i = 2 ∨ i = 3 ∨ i = 4 ∨ i = 5 ∨ i = 6 ∨ i = 7 ∨ i = 8) by omega) i hi1 hi2
              · -- operation 0
                have HW := Lib.hid hW
                clear hW hL hd hi1 hi2
                refine wpOp_step rfl fun K hK => ?_
                go_simp
                refine hK _ _ ⟨_, _, _, _, _, _, _, _, _, rfl, (Lib.hid fun _ => rfl), k1, k2, k3, k4, k5, k6, k7, k8, HW.out⟩
              · -- operation 1
                have HW := Lib.hid hW
                clear hW hL hd hi1 hi2
                refine wpOp_step rfl fun K hK => ?_
                go_simp
                refine hK _ _ ⟨_, _, _, _, _, _, _, _, _, rfl, k0, (Lib.hid fun _ => rfl), k2, k3, k4, k5, k6, k7, k8, HW.out⟩
              · -- operation 2
                obtain rfl := k1.out (hd 1 (by decide))
                have HW := Lib.hid hW
                clear hW hL hd hi1 hi2
                refine wpOp_step rfl fun K hK => ?_
                go_simp
                refine hK _ _ ⟨_, _, _, _, _, _, _, _, _, rfl, k0, k1, (Lib.hid fun _ => rfl), k3, k4, k5, k6, k7, k8, HW.out⟩
              · -- operation 3
                obtain rfl := k2.out (hd 2 (by decide))
                have HW := Lib.hid hW
                clear hW hL hd hi1 hi2
                refine wpOp_step rfl fun K hK => ?_
                go_simp
                refine hK _ _ ⟨_, _, _, _, _, _, _, _, _, rfl, k0, k1, k2, (Lib.hid fun _ => rfl), k4, k5, k6, k7, k8, HW.out⟩
              · -- operation 4
                obtain rfl := k0.out (hd 0 (by decide))
                obtain rfl := k3.out (hd 3 (by decide))
                have HW := Lib.hid hW
                clear hW hL hd hi1 hi2
                refine wpOp_step rfl fun K hK => ?_
                go_simp
                refine hK _ _ ⟨_, _, _, _, _, _, _, _, _, rfl, k0, k1, k2, k3, (Lib.hid fun _ => rfl), k5, k6, k7, k8, HW.out⟩
              · -- operation 5
                obtain rfl := k4.out (hd 4 (by decide))
                obtain ⟨c0, c1, c2, c3⟩ := (HF.out.1.by hW).2
                have HW := Lib.hid hW
                clear hW hL hd hi1 hi2
                refine wpOp_step rfl fun K hK => ?_
                go_simp
                refine hK _ _ ⟨_, _, _, _, _, _, _, _, _, rfl, k0, k1, k2, k3, k4, (Lib.hid fun _ => rfl), k6, k7, k8, HW.out⟩
              · -- operation 6
                obtain rfl := k5.out (hd 5 (by decide))
                have HW := Lib.hid hW
                clear hW hL hd hi1 hi2
                refine wpOp_step rfl fun K hK => ?_
                go_simp
                go_at_call 30
                refine (HE.out _).mono ?_
                rintro _ w' ⟨rfl, hb⟩
                refine hK _ _ ⟨_, _, _, _, _, _, _, _, _, rfl, k0, k1, k2, k3, k4, k5, (Lib.hid fun _ => rfl), k7, k8, HW.out.trans (hb.mono HW.out.size)⟩
              · -- operation 7
                have HW := Lib.hid hW
                clear hW hL hd hi1 hi2
                refine wpOp_step rfl fun K hK => ?_
                go_simp
                refine hK _ _ ⟨_, _, _, _, _, _, _, _, _, rfl, k0, k1, k2, k3, k4, k5, k6, (Lib.hid fun _ => rfl), k8, HW.out⟩
              · -- operation 8
                obtain rfl := k7.out (hd 7 (by decide))
                have HW := Lib.hid hW
                clear hW hL hd hi1 hi2
                refine wpOp_step rfl fun K hK => ?_
                go_simp
                refine hK _ _ ⟨_, _, _, _, _, _, _, _, _, rfl, k0, k1, k2, k3, k4, k5, k6, k7, (Lib.hid fun _ => rfl), HW.out⟩
            clear hW
            clear u
            intro L a' u hI hall
            obtain ⟨v63, v64, v65, v66, v67, v68, v69, v70, v71, rfl, k0, k1, k2, k3, k4, k5, k6, k7, k8, hW⟩ := hI
            obtain rfl := k0.out (hall 0 (by decide))
            obtain rfl := k1.out (hall 1 (by decide))
            obtain rfl := k2.out (hall 2 (by decide))
            obtain rfl := k3.out (hall 3 (by decide))
            obtain rfl := k4.out (hall 4 (by decide))
            obtain rfl := k5.out (hall 5 (by decide))
            obtain rfl := k6.out (hall 6 (by decide))
            obtain rfl := k7.out (hall 7 (by decide))
            obtain rfl := k8.out (hall 8 (by decide))
            clear k0 k1 k2 k3 k4 k5 k6 k7 k8 hall L
            -- operation 9 alone
            refine from_one' hTab 9 (by kernel_rfl) ?_
            have HW := Lib.hid hW
            clear hW
            refine wpOp_step rfl fun K hK => ?_
            go_simp
            refine hK _ _ ?_
            clear hK K
            have hW := HW.out
            clear HW
            -- operation 10 alone
            refine from_one' hTab 10 (by kernel_rfl) ?_
            have HW := Lib.hid hW
            clear hW
            refine wpOp_step rfl fun K hK => ?_
            go_simp
            refine hK _ _ ?_
            clear hK K
            have hW := HW.out
            clear HW
            -- operations 11 to 17
            refine from_block' hTab 11 18 (by decide) (by kernel_rfl)
              (fun L a' u => ∃ v74 v75 v76 v77 v78 v79 v80 : Value, a' = ⟨#[Value.slice A n c, undef, .bool false, .slice (some ⟨g3, o3, none⟩) k c3, undef, u5, .slice (some ⟨g6, o6, none⟩) k c6, .bool false, u8, u9, undef, u11, .slice (some ⟨w.heap.size, 0, none⟩) 0 0, Value.slice A n c, Value.slice A14 rs.length c14, .int .i64 ↑rs.length, .int .i64 ↑rs.length, .bool false, u18, u19, u20, u21, u22, u23, u24, u25, u26, u27, .slice (some ⟨g3, o3, none⟩) k c3, .slice (some ⟨g6, o6, none⟩) k c6, .slice (some ⟨g6, o6, none⟩) k c6, .int .i64 ↑k, .slice (some ⟨g3, o3, none⟩) k c3, .int .i64 ↑k, .bool false, .slice (some ⟨g3, o3, none⟩) k c3, .int .i64 ↑k, .bool false, .slice (some ⟨g3, o3, none⟩) k c3, .int .i64 ↑k, .int .i64 ↑k, .bool false, u42, u43, u44, u45, u46, u47, u48, u49, u50, u51, u52, u53, u54, u55, u56, u57, u58, u59, u60, u61, u62, .slice (some ⟨g6, o6, none⟩) k c6, .slice (some ⟨g6, o6, none⟩) k c6, .int .i64 ↑k, .int .i64 (↑k - 1), .pointer (some ⟨g6, o6 + (k - 1) * 4, none⟩), .agg #[.int .i64 p, .int .i64 q, .int .i64 s, .int .i64 t], .bool true, .bool false, .bool true, .bool true, .bool true, v74, v75, v76, v77, v78, v79, v80, undef, undef, undef], []⟩ ∧
                Hid (L 11 = true → v74 = .agg #[.int .i64 0, .int .i64 0]) ∧ Hid (L 12 = true → v75 = .slice (some ⟨g3, o3, none⟩) k c3) ∧ Hid (L 13 = true → v76 = .pointer (some ⟨g3, o3, none⟩)) ∧ Hid (L 14 = true → v77 = .agg #[.int .i64 p', .int .i64 q', .int .i64 s', .int .i64 t']) ∧ Hid (L 15 = true → v78 = .slice (some ⟨g3, o3, none⟩) k c3) ∧ Hid (L 16 = true → v79 = .pointer (some ⟨g3, o3, none⟩)) ∧ Hid (L 17 = true → v80 = .agg #[.int .i64 p', .int .i64 q', .int .i64 s', .int .i64 t']) ∧ (Below wr.heap.size wr u)) ?_ ?_ ?_
            · exact ⟨_, _, _, _, _, _, _, rfl, (Lib.hid fun h => by cases h), (Lib.hid fun h => by cases h), (Lib.hid fun h => by cases h), (Lib.hid fun h => by cases h), (Lib.hid fun h => by cases h), (Lib.hid fun h => by cases h), (Lib.hid fun h => by cases h), hW⟩
            · clear hW
              intro L a' u i hi1 hi2 hI hL hd
              obtain ⟨v74, v75, v76, v77, v78, v79, v80, rfl, k11, k12, k13, k14, k15, k16, k17, hW⟩ := hI
              obtain rfl | rfl | rfl | rfl | rfl | rfl | rfl := (show ∀ i : Nat, 11 ≤ i → i < 18 → (i = 11 ∨ i = 12 ∨ i = 13 ∨ i = 14 ∨ i = 15 ∨ i = 16 ∨ i = 17) by omega) i hi1 hi2
              · -- operation 11
                have HW := Lib.hid hW
                clear hW hL hd hi1 hi2
                refine wpOp_step rfl fun K hK => ?_
                go_simp
                refine hK _ _ ⟨_, _, _, _, _, _, _, rfl, (Lib.hid fun _ => rfl), k12, k13, k14, k15, k16, k17, HW.out⟩
              · -- operation 12
                have HW := Lib.hid hW
                clear hW hL hd hi1 hi2
                refine wpOp_step rfl fun K hK => ?_
                go_simp
                refine hK _ _ ⟨_, _, _, _, _, _, _, rfl, k11, (Lib.hid fun _ => rfl), k13, k14, k15, k16, k17, HW.out⟩
              · -- operation 13
                obtain rfl := k12.out (hd 12 (by decide))
                have HW := Lib.hid hW
                clear hW hL hd hi1 hi2
                refine wpOp_step rfl fun K hK => ?_
                go_simp
                refine hK _ _ ⟨_, _, _, _, _, _, _, rfl, k11, k12, (Lib.hid fun _ => rfl), k14, k15, k16, k17, HW.out⟩
              · -- operation 14
                obtain rfl := k13.out (hd 13 (by decide))
                obtain ⟨c0, c1, c2, c3⟩ := (HF.out.2.by hW).2
                have HW := Lib.hid hW
                clear hW hL hd hi1 hi2
                refine wpOp_step rfl fun K hK => ?_
                go_simp
                refine hK _ _ ⟨_, _, _, _, _, _, _, rfl, k11, k12, k13, (Lib.hid fun _ => rfl), k15, k16, k17, HW.out⟩
              · -- operation 15
                have HW := Lib.hid hW
                clear hW hL hd hi1 hi2
                refine wpOp_step rfl fun K hK => ?_
                go_simp
                refine hK _ _ ⟨_, _, _, _, _, _, _, rfl, k11, k12, k13, k14, (Lib.hid fun _ => rfl), k16, k17, HW.out⟩
              · -- operation 16
                obtain rfl := k15.out (hd 15 (by decide))
                have HW := Lib.hid hW
                clear hW hL hd hi1 hi2
                refine wpOp_step rfl fun K hK => ?_
                go_simp
                refine hK _ _ ⟨_, _, _, _, _, _, _, rfl, k11, k12, k13, k14, k15, (Lib.hid fun _ => rfl), k17, HW.out⟩
              · -- operation 17
                obtain rfl := k16.out (hd 16 (by decide))
                obtain ⟨c0, c1, c2, c3⟩ := (HF.out.2.by hW).2
                have HW := Lib.hid hW
                clear hW hL hd hi1 hi2
                refine wpOp_step rfl fun K hK => ?_
                go_simp
                refine hK _ _ ⟨_, _, _, _, _, _, _, rfl, k11, k12, k13, k14, k15, k16, (Lib.hid fun _ => rfl), HW.out⟩
            clear hW
            clear u
            intro L a' u hI hall
            obtain ⟨v74, v75, v76, v77, v78, v79, v80, rfl, k11, k12, k13, k14, k15, k16, k17, hW⟩ := hI
            obtain rfl := k11.out (hall 11 (by decide))
            obtain rfl := k12.out (hall 12 (by decide))
            obtain rfl := k13.out (hall 13 (by decide))
            obtain rfl := k14.out (hall 14 (by decide))
            obtain rfl := k15.out (hall 15 (by decide))
            obtain rfl := k16.out (hall 16 (by decide))
            obtain rfl := k17.out (hall 17 (by decide))
            clear k11 k12 k13 k14 k15 k16 k17 hall L
            -- operation 18 alone
            refine from_one' hTab 18 (by kernel_rfl) ?_
            have HW := Lib.hid hW
            clear hW
            refine wpOp_step rfl fun K hK => ?_
            go_simp
            go_at_call 16
            refine (HT.out _).mono ?_
            rintro _ w' ⟨rfl, hb⟩
            refine hK _ _ ?_
            clear hK K
            refine from_gen (fun u => (Below wr.heap.size wr u)) (HW.out.trans (hb.mono HW.out.size)) ?_
            clear hb HW
            intro u hW
            -- operation 19 alone
            refine from_one' hTab 19 (by kernel_rfl) ?_
            have HW := Lib.hid hW
            clear hW
            refine wpOp_step rfl fun K hK => ?_
            go_simp
            refine hK _ _ ?_
            clear hK K
            have hW := HW.out
            clear HW
            -- operation 20 alone
            refine from_one' hTab 20 (by kernel_rfl) ?_
            have HW := Lib.hid hW
            clear hW
            refine wpOp_step rfl fun K hK => ?_
            go_simp
            refine hK _ _ ?_
            clear hK K
            have hW := HW.out
            clear HW
            -- operation 21 alone
            refine from_one' hTab 21 (by kernel_rfl) ?_
            have HW := Lib.hid hW
            clear hW
            refine wpOp_step rfl fun K hK => ?_
            go_simp
            refine hK _ _ ?_
            clear hK K
            have hW := HW.out
            clear HW
            refine from_end' hTab 22 (by kernel_rfl) ?_
            clear hTab
            have HW := Lib.hid hW
            clear hW
            go_wp2
            go_ret
            exact ⟨rfl, HB2.out.trans ((HBO.out.trans (HW.out.mono HBO.out.size)).mono HB2.out.size)⟩
end Go.Proofs.Ytojplcchoffapaa
