/- The walk of FnMeetPoints. Conditions: at most 5864062014634 rows. -/
import Derived.Test.YtojplcchoffapaaJoin
import Derived.Test.YtojplcchoffapaaAppend
import Derived.Test.YtojplcchoffapaaNums
import Derived.Test.YtojplcchoffapaaPlainPts
namespace Go.Proofs.Ytojplcchoffapaa
open Go.RowKit

theorem hasq (a b c d x y : Int) (w : World) (v : Bool) (hv : inB x y a b c d = v) : Calls Try.prog 17 #[.agg #[.int .i64 a, .int .i64 b, .int .i64 c, .int .i64 d], .int .i64 x, .int .i64 y] w fun e w' => e = .returned (.bool v) ∧ Below w.heap.size w w' := hv ▸ has_any a b c d x y w
theorem Hasq (g : Nat) (a b c d x y : Int) (w : World) (v : Bool) (hv : inB x y a b c d = v) (hg : At w g 3 [.int .i64 a, .int .i64 b, .int .i64 c, .int .i64 d]) :
    Calls Try.prog 22 #[.slice (some ⟨g, 0, none⟩) 4 4, .int .i64 x, .int .i64 y] w fun e w' => e = .returned (.bool v) ∧ w = w' := hv ▸ Has_any g a b c d x y w hg

set_option maxHeartbeats 4000000 in
theorem meetpoints_walk (A1 : Option Addr) (n1 c1 : Nat) (z1 : List (List Int)) (x y : Int) (w : World) (h1 : RowsAt w A1 n1 z1) (hn1 : n1 ≤ 5864062014634) :
    Calls Try.prog 13 #[.slice A1 n1 c1, .int .i64 x, .int .i64 y] w fun e w' => e = .returned (.bool true) ∧ Below w.heap.size w w' := by
  have HN1 := Lib.hid (show (z1.map rectOf).length ≤ 5864062014634 by rw [List.length_map, h1.1]; exact hn1)
  have H1 := Lib.hid h1
  clear h1
  go_enter Try.func13, Try.ntmps13
  go_wp2_with fail
  refine (rects_any A1 n1 c1 z1 _ H1.out hn1).mono ?_
  rintro _ w1 ⟨v1, rfl, ho1, hb1⟩
  obtain ⟨l, hl⟩ : ∃ l, l = z1.map rectOf := ⟨_, rfl⟩
  rw [← hl] at ho1 HN1
  obtain ⟨A7, c7, rfl, hR7, -⟩ := ho1.form'
  have hm := HN1.out
  have HR7 := Lib.hid hR7
  have HB1 := Lib.hid hb1
  clear H1 hl ho1 hR7 hb1 HN1
  go_wp2_with fail
  refine (meet_any A7 c7 l _ HR7.out (by omega)).mono ?_
  rintro _ w2 ⟨v8, rfl, ho8, hb2⟩
  obtain ⟨A8, c8, rfl, hR8, -⟩ := ho8.form'
  rw [accs_length]
  have HRs := Lib.hid (And.intro (HR7.out.by hb2) hR8)
  have HB2 := Lib.hid (HB1.out.trans (hb2.mono HB1.out.size))
  clear ho8 hR8 hb2 HB1 HR7
  go_wp2
  go_loopw [9, 23] (fun b i wr => ∃ k : Nat, k ≤ l.length ∧ i = .int .i64 k ∧ b = .bool (allIn l x y k) ∧ Below w2.heap.size w2 wr) (fun _ i _ => l.length - (intOf i).toNat)
  case atStart => exact ⟨0, Nat.zero_le _, rfl, by rw [allIn_zero], Below.refl _ _⟩
  case round =>
    obtain ⟨k, hk, rfl, rfl, hbel⟩ := hrel
    by_cases hlt : k < l.length
    · obtain ⟨g7, o7, rfl, _, c0, c1, c2, c3⟩ := Rects.at_ (HRs.out.1.by hbel) hlt
      obtain ⟨g8, o8, rfl, hg8⟩ := (HRs.out.2).addr (by rw [accs_length]; omega)
      have hall := allIn_succ l x y k hlt
      have hhas := has_acc_inter l x y k hlt
      generalize hr : l[k] = r at c0 c1 c2 c3 hall
      obtain ⟨a, b, c, d⟩ := r
      obtain ⟨⟨p, q, s, t⟩, hv⟩ : ∃ v : R, acc inter (l.take (k + 1)) = v := ⟨_, rfl⟩
      rw [hv] at hhas
      obtain ⟨z, hz⟩ : ∃ z, inB x y a b c d = z := ⟨_, rfl⟩
      have hall' : allIn l x y (k + 1) = (allIn l x y k && z) := by rw [hall]; show (_ && inB x y a b c d) = _; rw [hz]
      have HC := Lib.hid ((accs_get inter l l.length k hlt).trans hv)
      have hg8' : g8 < wr.heap.size := Nat.lt_of_lt_of_le hg8 hbel.size
      have HV := Lib.hid hhas
      have HA := Lib.hid hall'
      have HZ := Lib.hid hz
      have HB := Lib.hid hbel
      clear hall hhas hr hv hz hall' hbel hg8
      dsimp only at c0 c1 c2 c3
      generalize hin : allIn l x y k = inb at HA
      clear hin
      cases inb with
      | true =>
        go_wp2_with fail
        refine (numbers_any _ _ _ _ _).mono ?_
        rintro _ w3 ⟨gn, rfl, hgn, hb3⟩
        have hb3' := ((Below.refl wr.heap.size wr).alloc (Nat.le_refl _) (.cells #[.int .i64 a, .int .i64 b, .int .i64 c, .int .i64 d] 24)).trans (hb3.mono (by simp))
        have hb23 := HB.out.trans (hb3'.mono HB.out.size)
        obtain ⟨d0, d1, d2, d3⟩ := (HRs.out.2.by hb23).cells (i := k) (by rw [accs_length]; exact hlt) HC.out
        have HGN := Lib.hid hgn
        have HB3 := Lib.hid hb23
        clear c0 c1 c2 c3 hgn hb3 hb3' hb23
        go_wp2_with fail
        refine (Hasq gn a b c d x y _ z HZ.out HGN.out).mono ?_
        rintro _ w4 ⟨rfl, rfl⟩
        go_wp2_with fail
        refine (hasq p q s t x y _ z (HV.out.trans HA.out)).mono ?_
        rintro _ w4 ⟨rfl, hb4⟩
        have HB4 := Lib.hid (HB3.out.trans (hb4.mono HB3.out.size))
        clear hb4 d0 d1 d2 d3
        go_wp2
        go_roundw
        case rel => exact ⟨k + 1, by omega, by go_num, by rw [HA.out, Bool.true_and], HB4.out⟩
        case measure => simp [intOf]; omega
      | false =>
        have hb23 := HB.out.trans ((Below.refl w2.heap.size wr).alloc HB.out.size (.cells #[.int .i64 a, .int .i64 b, .int .i64 c, .int .i64 d] 24))
        obtain ⟨d0, d1, d2, d3⟩ := (HRs.out.2.by hb23).cells (i := k) (by rw [accs_length]; exact hlt) HC.out
        have HB3 := Lib.hid hb23
        clear hb23
        go_wp2_with fail
        refine (hasq p q s t x y _ false (HV.out.trans HA.out)).mono ?_
        rintro _ w4 ⟨rfl, hb4⟩
        have HB4 := Lib.hid (HB3.out.trans (hb4.mono HB3.out.size))
        clear hb4 d0 d1 d2 d3 c0 c1 c2 c3
        go_wp2
        go_roundw
        case rel => exact ⟨k + 1, by omega, by go_num, by rw [HA.out, Bool.false_and], HB4.out⟩
        case measure => simp [intOf]; omega
    · obtain rfl : k = l.length := by omega
      have HB := Lib.hid hbel
      clear hbel
      go_wp2
      go_ret
      exact ⟨rfl, HB2.out.trans (HB.out.mono HB2.out.size)⟩
end Go.Proofs.Ytojplcchoffapaa
