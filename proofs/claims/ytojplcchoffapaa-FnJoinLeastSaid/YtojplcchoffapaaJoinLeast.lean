/- The walk of FnJoinLeast. Conditions: at most 5864062014634 rows. -/
import Derived.Test.YtojplcchoffapaaJoin
import Derived.Test.YtojplcchoffapaaAppend
import Derived.Test.YtojplcchoffapaaNums
import Derived.Test.YtojplcchoffapaaPlainPts
import Derived.Deep.DeepCutAuto
import Derived.Test.YtojplcchoffapaaRegion
namespace Go.Proofs.Ytojplcchoffapaa
open Go.RowKit

theorem hasr (a b c d x y : Int) (w : World) (v : Bool) (hv : inB x y a b c d = v) : Calls Try.prog 17 #[.agg #[.int .i64 a, .int .i64 b, .int .i64 c, .int .i64 d], .int .i64 x, .int .i64 y] w fun e w' => e = .returned (.bool v) ∧ Below w.heap.size w w' := hv ▸ has_any a b c d x y w
theorem Hasr (g : Nat) (a b c d x y : Int) (w : World) (v : Bool) (hv : inB x y a b c d = v) (hg : At w g 3 [.int .i64 a, .int .i64 b, .int .i64 c, .int .i64 d]) :
    Calls Try.prog 22 #[.slice (some ⟨g, 0, none⟩) 4 4, .int .i64 x, .int .i64 y] w fun e w' => e = .returned (.bool v) ∧ w = w' := hv ▸ Has_any g a b c d x y w hg
/-- Tell, of which the second answer alone is asked -/
def RetW (v : Bool) (w : World) (e : Ending) (w' : World) : Prop := ∃ v0 v2 v3 v4 v5 v6, e = .returned (.agg #[v0, .bool v, v2, v3, v4, v5, v6]) ∧ Below w.heap.size w w'
theorem tellw (a b c d e f g h : Int) (w : World) (v : Bool) (hv : R.sub ⟨a, b, c, d⟩ ⟨e, f, g, h⟩ = v) :
    Calls Try.prog 16 #[.agg #[.int .i64 0, .int .i64 0], .agg #[.int .i64 a, .int .i64 b, .int .i64 c, .int .i64 d], .agg #[.int .i64 e, .int .i64 f, .int .i64 g, .int .i64 h]] w (RetW v w) :=
  (tell_any 0 0 a b c d e f g h w).mono fun _ _ ⟨h1, h2⟩ => ⟨_, _, _, _, _, _, by rw [← hv]; exact h1, h2⟩

theorem telle (a b c d e f g h : Int) (w : World) (v : Bool) (hv : R.sub ⟨a, b, c, d⟩ ⟨e, f, g, h⟩ = v) :
    Calls Try.prog 16 #[.agg #[.int .i64 0, .int .i64 0], .agg #[.int .i64 a, .int .i64 b, .int .i64 c, .int .i64 d], .agg #[.int .i64 e, .int .i64 f, .int .i64 g, .int .i64 h]] w fun x w' => x = .returned (.agg #[.bool (R.has ⟨a, b, c, d⟩ 0 0), .bool v, .bool (R.over ⟨a, b, c, d⟩ ⟨e, f, g, h⟩), .bool (R.empty ⟨a, b, c, d⟩), .bool (R.same ⟨a, b, c, d⟩ ⟨e, f, g, h⟩), .int .i64 (wrap64 (c - a)), .int .i64 (wrap64 (d - b))]) ∧ Below w.heap.size w w' :=
  (tell_any 0 0 a b c d e f g h w).mono fun _ _ ⟨h1, h2⟩ => ⟨by rw [← hv]; exact h1, h2⟩

set_option maxHeartbeats 8000000 in
theorem joinleast_walk (A1 A2 : Option Addr) (n1 c1 n2 c2 : Nat) (z1 : List (List Int)) (z2 : List Int) (x y : Int) (w : World) (h1 : RowsAt w A1 n1 z1) (h2 : Ints w A2 n2 z2) (hn1 : n1 ≤ 5864062014634) :
    Calls Try.prog 9 #[.slice A1 n1 c1, .slice A2 n2 c2, .int .i64 x, .int .i64 y] w fun e w' => e = .returned (.bool true) ∧ Below w.heap.size w w' := by
  have HN1 := Lib.hid (show (z1.map rectOf).length ≤ 5864062014634 by rw [List.length_map, h1.1]; exact hn1)
  have H1 := Lib.hid h1
  have H2 := Lib.hid h2
  clear h1 h2
  have hf1 := told1
  go_enter Try.func9, Try.ntmps9
  go_wp2_with fail
  refine (rects_any A1 n1 c1 z1 _ H1.out hn1).mono ?_
  rintro _ w1 ⟨v1, rfl, ho1, hb1⟩
  obtain ⟨l, hl⟩ : ∃ l, l = z1.map rectOf := ⟨_, rfl⟩
  rw [← hl] at ho1 HN1
  obtain ⟨A9, c9, rfl, hR9, -⟩ := ho1.form'
  have hm := HN1.out
  have HR9 := Lib.hid hR9
  have HB1 := Lib.hid hb1
  have H2' := Lib.hid (H2.out.below (Nat.le_refl _) hb1)
  clear H1 H2 hl ho1 hR9 hb1 HN1
  have L2 := fun u hu => lrect_any A2 n2 c2 z2 u hu
  generalize rectOf z2 = sr at L2
  obtain ⟨e, f, g, h⟩ := sr
  have HL2 := Lib.hid L2
  clear L2
  go_wp2_with fail
  refine (HL2.out _ H2'.out).mono ?_
  rintro _ w2 ⟨rfl, hb2⟩
  have HB2 := Lib.hid ((HB1.out.trans (hb2.mono HB1.out.size)).alloc (Nat.le_trans HB1.out.size hb2.size) (.cells #[.int .i64 e, .int .i64 f, .int .i64 g, .int .i64 h] 24))
  have HR9' := Lib.hid ((HR9.out.by hb2).alloc (.cells #[.int .i64 e, .int .i64 f, .int .i64 g, .int .i64 h] 24))
  have H10 := Lib.hid (At.new w2 24 [.int .i64 e, .int .i64 f, .int .i64 g, .int .i64 h])
  clear hb2 HB1 HR9 HL2 H2'
  go_wp2_with fail
  refine (join_any A9 c9 l _ HR9'.out (by omega)).mono ?_
  rintro _ w3 ⟨v11, rfl, ho11, hb3⟩
  obtain ⟨A11, c11, rfl, hR11, -⟩ := ho11.form'
  rw [accs_length]
  obtain ⟨g10, hg10⟩ : ∃ g10, g10 = w2.heap.size := ⟨_, rfl⟩
  rw [← hg10] at H10 ⊢
  have HRs := Lib.hid (And.intro (HR9'.out.by hb3) (And.intro hR11 (H10.out.by hb3)))
  have HB3 := Lib.hid (HB2.out.trans (hb3.mono HB2.out.size))
  clear ho11 hR11 hb3 HB2 HR9' H10 hg10
  go_wp2
  go_loopw [12, 13, 29] (fun b b' i wr => ∃ k : Nat, k ≤ l.length ∧ i = .int .i64 k ∧ b = .bool (anyIn l x y k) ∧ b' = .bool (allSub l ⟨e, f, g, h⟩ k) ∧ Below w3.heap.size w3 wr) (fun _ _ i _ => l.length - (intOf i).toNat)
  case atStart => exact ⟨0, Nat.zero_le _, rfl, by rw [anyIn_zero], by rw [allSub_zero], Below.refl _ _⟩
  case round =>
    obtain ⟨k, hk, rfl, rfl, rfl, hbel⟩ := hrel
    by_cases hlt : k < l.length
    · obtain ⟨g9, o9, rfl, _, c0, c1, c2, c3⟩ := Rects.at_ (HRs.out.1.by hbel) hlt
      obtain ⟨g11, o11, rfl, hg11⟩ := (HRs.out.2.1).addr (by rw [accs_length]; omega)
      have hany := anyIn_succ l x y k hlt
      have hall := allSub_succ l ⟨e, f, g, h⟩ k hlt
      have hhas := has_acc_union l x y k hlt
      have hsub := sub_acc_union l ⟨e, f, g, h⟩ k hlt
      generalize hr : l[k] = r at c0 c1 c2 c3 hany hall
      obtain ⟨a, b, c, d⟩ := r
      obtain ⟨⟨p, q, s, t⟩, hv⟩ : ∃ v : R, acc union (l.take (k + 1)) = v := ⟨_, rfl⟩
      rw [hv] at hhas hsub
      have HC := Lib.hid ((accs_get union l l.length k hlt).trans hv)
      have HH := Lib.hid hhas
      have HS := Lib.hid hsub
      have HB := Lib.hid hbel
      dsimp only at c0 c1 c2 c3
      obtain ⟨n0, hn0⟩ : ∃ n0, n0 = anyIn l x y k := ⟨_, rfl⟩
      obtain ⟨m0, hm0⟩ : ∃ m0, m0 = allSub l ⟨e, f, g, h⟩ k := ⟨_, rfl⟩
      obtain ⟨n1', hn1'⟩ : ∃ n1', anyIn l x y (k + 1) = n1' := ⟨_, rfl⟩
      obtain ⟨m1', hm1'⟩ : ∃ m1', allSub l ⟨e, f, g, h⟩ (k + 1) = m1' := ⟨_, rfl⟩
      rw [← hn0] at hany ⊢
      rw [← hm0] at hall ⊢
      rw [hn1'] at hany HH
      rw [hm1'] at hall HS
      have HNY := Lib.hid hany
      have HAL := Lib.hid hall
      have HN1' := Lib.hid hn1'
      have HM1' := Lib.hid hm1'
      clear hany hall hhas hsub hr hv hbel hn0 hm0 hn1' hm1' hg11
      go_upto_region 9 with fail
      have h15 := At.new wr 24 [.int .i64 a, .int .i64 b, .int .i64 c, .int .i64 d]
      have HW0 := Lib.hid (And.intro h15 (HB.out.trans ((Below.refl w3.heap.size wr).alloc HB.out.size (.cells #[.int .i64 a, .int .i64 b, .int .i64 c, .int .i64 d] 24))))
      clear h15 c0 c1 c2 c3
      go_cut [12] (fun b12 wx => b12 = .bool n1' ∧ At wx wr.heap.size 24 [.int .i64 a, .int .i64 b, .int .i64 c, .int .i64 d] ∧ Below w3.heap.size w3 wx)
      case first =>
        cases n0 with
        | true =>
          go_wp2
          go_meet
          exact ⟨by rw [HNY.out, Bool.true_or], HW0.out.1, HW0.out.2⟩
        | false =>
          go_wp2_with fail
          refine (numbers_any _ _ _ _ _).mono ?_
          rintro _ w4 ⟨gn, rfl, hgn, hb4⟩
          have HGN := Lib.hid hgn
          have HW1 := Lib.hid (And.intro (HW0.out.1.by hb4) (HW0.out.2.trans (hb4.mono HW0.out.2.size)))
          clear hgn hb4
          go_wp2_with fail
          refine (Hasr gn a b c d x y _ n1' (by rw [HNY.out, Bool.false_or]; rfl) HGN.out).mono ?_
          rintro _ w5 ⟨rfl, rfl⟩
          go_wp2
          go_meet
          exact ⟨rfl, HW1.out.1, HW1.out.2⟩
      case rest =>
        obtain ⟨rfl, h15, hb15⟩ := hcut
        have HW1 := Lib.hid (And.intro h15 hb15)
        clear h15 hb15
        go_upto_region 10 with fail
        go_cut [13] (fun b13 wx => b13 = .bool m1' ∧ Below w3.heap.size w3 wx)
        case first =>
          cases m0 with
          | true =>
            obtain ⟨c0, c1, c2, c3⟩ := HW1.out.1.four.1
            obtain ⟨d0, d1, d2, d3⟩ := (HRs.out.2.2.by HW1.out.2).four.1
            go_wp2_with fail
            refine (tellw a b c d e f g h _ m1' (by rw [HAL.out, Bool.true_and])).mono ?_
            rintro _ w4 ⟨v0, v2, v3, v4, v5, v6, rfl, hb4⟩
            have HW2 := Lib.hid (HW1.out.2.trans (hb4.mono HW1.out.2.size))
            clear hb4 c0 c1 c2 c3 d0 d1 d2 d3
            go_wp2
            go_meet
            exact ⟨rfl, HW2.out⟩
          | false =>
            go_wp2
            go_meet
            exact ⟨by rw [HAL.out, Bool.false_and], HW1.out.2⟩
        case rest =>
          obtain ⟨rfl, hb15⟩ := hcut
          have HW2 := Lib.hid hb15
          clear hb15 HW0 HW1 HNY HAL
          go_wp2_with fail
          cases n1' with
          | true =>
            refine wp_region_tail [[], [0], [0, 1], [0, 1], [0, 1, 2, 3], [0, 1, 2, 3, 4], [0, 1], [0, 1], [0, 1, 2, 3, 4, 5, 6, 7], [0, 1, 2, 3, 4, 5, 6, 7, 8], [0, 1, 2, 3, 4, 5, 6, 7, 8, 9], [0, 1, 2, 3, 4, 5, 6, 7, 8, 9, 10], [0, 1, 2, 3, 4, 5, 6, 7, 8, 9, 10, 11], [0, 1, 2, 3, 4, 5, 6, 7, 8, 9, 10, 11], [0, 1, 2, 3, 4, 5, 6, 7, 8, 9, 10, 11], [0, 1, 2, 3, 4, 5, 6, 7, 8, 9, 10, 11, 13, 14], [0, 1, 2, 3, 4, 5, 6, 7, 8, 9, 10, 11, 13, 14, 15], [0, 1, 2, 3, 4, 5, 6, 7, 8, 9, 10, 11], [0, 1, 2, 3, 4, 5, 6, 7, 8, 9, 10, 11, 12, 13, 14, 15, 16, 17], [0, 1, 2, 3, 4, 5, 6, 7, 8, 9, 10, 11, 12, 13, 14, 15, 16, 17, 18], [0, 1, 2, 3, 4, 5, 6, 7, 8, 9, 10, 11], [0, 1, 2, 3, 4, 5, 6, 7, 8, 9, 10, 11, 12, 13, 14, 15, 16, 17, 18, 19, 20], [0, 1, 2, 3, 4, 5, 6, 7, 8, 9, 10, 11, 12, 13, 14, 15, 16, 17, 18, 19, 20, 21]] (by kernel_rfl) (by kernel_rfl) 23 rfl (by decide) (by decide) (by kernel_rfl)
              (fun L a' u => ∃ v50 v51 v52 v53 v54 v55 v56 v57 v58 v59 v60 v61 v62 v63 v64 v65 v66 v67 v68 v69 v70 v71 v72 : Value, a' = ⟨#[Value.slice A1 n1 c1, Value.slice A2 n2 c2, Value.int IntKind.i64 x, Value.int IntKind.i64 y, undef, undef, undef, undef, u8, Value.slice (some { block := g9, off := o9 }) l.length c9, Value.pointer (some { block := g10, off := 0 }), Value.slice (some { block := g11, off := o11 }) l.length c11, Value.bool true, Value.bool m1', Value.int IntKind.i64 ↑k, Value.pointer (some { block := wr.heap.size, off := 0 }), Value.slice A1 n1 c1, Value.slice (some { block := g9, off := o9 }) l.length c9, Value.slice A2 n2 c2, Value.agg #[Value.int IntKind.i64 e, Value.int IntKind.i64 f, Value.int IntKind.i64 g, Value.int IntKind.i64 h], Value.slice (some { block := g9, off := o9 }) l.length c9, Value.slice (some { block := g11, off := o11 }) l.length c11, Value.slice (some { block := g11, off := o11 }) l.length c11, Value.int IntKind.i64 ↑l.length, Value.slice (some { block := g9, off := o9 }) l.length c9, Value.int IntKind.i64 ↑l.length, Value.bool false, Value.slice (some { block := g9, off := o9 }) l.length c9, Value.int IntKind.i64 ↑l.length, Value.int IntKind.i64 ↑k, u30, u31, u32, u33, u34, u35, u36, u37, u38, u39, u40, u41, u42, u43, u44, u45, u46, u47, u48, u49, v50, v51, v52, v53, v54, v55, v56, v57, v58, v59, v60, v61, v62, v63, v64, v65, v66, v67, v68, v69, v70, v71, v72, u73], []⟩ ∧
                Hid (L 0 = true → v50 = .bool true) ∧ Hid (L 1 = true → v51 = .bool true) ∧ Hid (L 2 = true → v52 = .slice (some ⟨g11, o11, none⟩) l.length c11) ∧ Hid (L 3 = true → v53 = .int .i64 ↑k) ∧ Hid (L 4 = true → v54 = .pointer (some ⟨g11, o11 + k * 4, none⟩)) ∧ Hid (L 5 = true → v55 = .agg #[.int .i64 p, .int .i64 q, .int .i64 s, .int .i64 t]) ∧ Hid (L 6 = true → v56 = .int .i64 x) ∧ Hid (L 7 = true → v57 = .int .i64 y) ∧ Hid (L 8 = true → v58 = .bool true) ∧ Hid (L 9 = true → v59 = .bool false) ∧ Hid (L 10 = true → v60 = .bool false) ∧ Hid (L 11 = true → v61 = .bool false) ∧ Hid (L 12 = true → v62 = .agg #[.int .i64 0, .int .i64 0]) ∧ Hid (L 13 = true → v63 = .slice (some ⟨g11, o11, none⟩) l.length c11) ∧ Hid (L 14 = true → v64 = .int .i64 ↑k) ∧ Hid (L 15 = true → v65 = .pointer (some ⟨g11, o11 + k * 4, none⟩)) ∧ Hid (L 16 = true → v66 = .agg #[.int .i64 p, .int .i64 q, .int .i64 s, .int .i64 t]) ∧ Hid (L 17 = true → v67 = .agg #[.int .i64 e, .int .i64 f, .int .i64 g, .int .i64 h]) ∧ Hid (L 18 = true → v68 = .agg #[.bool (R.has ⟨p, q, s, t⟩ 0 0), .bool m1', .bool (R.over ⟨p, q, s, t⟩ ⟨e, f, g, h⟩), .bool (R.empty ⟨p, q, s, t⟩), .bool (R.same ⟨p, q, s, t⟩ ⟨e, f, g, h⟩), .int .i64 (wrap64 (s - p)), .int .i64 (wrap64 (t - q))]) ∧ Hid (L 19 = true → v69 = .bool m1') ∧ Hid (L 20 = true → v70 = .bool m1') ∧ Hid (L 21 = true → v71 = .bool false) ∧ Hid (L 22 = true → v72 = .bool false) ∧ (Below wc.heap.size wc u)) ?_ ?_ ?_
            · refine ⟨_, _, _, _, _, _, _, _, _, _, _, _, _, _, _, _, _, _, _, _, _, _, _, rfl, (Lib.hid fun h => by cases h), (Lib.hid fun h => by cases h), (Lib.hid fun h => by cases h), (Lib.hid fun h => by cases h), (Lib.hid fun h => by cases h), (Lib.hid fun h => by cases h), (Lib.hid fun h => by cases h), (Lib.hid fun h => by cases h), (Lib.hid fun h => by cases h), (Lib.hid fun h => by cases h), (Lib.hid fun h => by cases h), (Lib.hid fun h => by cases h), (Lib.hid fun h => by cases h), (Lib.hid fun h => by cases h), (Lib.hid fun h => by cases h), (Lib.hid fun h => by cases h), (Lib.hid fun h => by cases h), (Lib.hid fun h => by cases h), (Lib.hid fun h => by cases h), (Lib.hid fun h => by cases h), (Lib.hid fun h => by cases h), (Lib.hid fun h => by cases h), (Lib.hid fun h => by cases h), ?_⟩
              exact (Below.refl _ _).drew
            · intro L a' u i hi hI hL hd
              obtain ⟨v50, v51, v52, v53, v54, v55, v56, v57, v58, v59, v60, v61, v62, v63, v64, v65, v66, v67, v68, v69, v70, v71, v72, rfl, k0, k1, k2, k3, k4, k5, k6, k7, k8, k9, k10, k11, k12, k13, k14, k15, k16, k17, k18, k19, k20, k21, k22, hW⟩ := hI
              obtain rfl | rfl | rfl | rfl | rfl | rfl | rfl | rfl | rfl | rfl | rfl | rfl | rfl | rfl | rfl | rfl | rfl | rfl | rfl | rfl | rfl | rfl | rfl : i = 0 ∨ i = 1 ∨ i = 2 ∨ i = 3 ∨ i = 4 ∨ i = 5 ∨ i = 6 ∨ i = 7 ∨ i = 8 ∨ i = 9 ∨ i = 10 ∨ i = 11 ∨ i = 12 ∨ i = 13 ∨ i = 14 ∨ i = 15 ∨ i = 16 ∨ i = 17 ∨ i = 18 ∨ i = 19 ∨ i = 20 ∨ i = 21 ∨ i = 22 := by omega
              · -- operation 0
                have HW := Lib.hid hW
                clear hW hL hd
                refine wpOp_step rfl fun K hK => ?_
                go_simp
                refine hK _ _ ⟨_, _, _, _, _, _, _, _, _, _, _, _, _, _, _, _, _, _, _, _, _, _, _, rfl, (Lib.hid fun _ => rfl), k1, k2, k3, k4, k5, k6, k7, k8, k9, k10, k11, k12, k13, k14, k15, k16, k17, k18, k19, k20, k21, k22, HW.out⟩
              · -- operation 1
                obtain rfl := k0.out (hd 0 (by decide))
                have HW := Lib.hid hW
                clear hW hL hd
                refine wpOp_step rfl fun K hK => ?_
                go_simp
                refine hK _ _ ⟨_, _, _, _, _, _, _, _, _, _, _, _, _, _, _, _, _, _, _, _, _, _, _, rfl, k0, (Lib.hid fun _ => rfl), k2, k3, k4, k5, k6, k7, k8, k9, k10, k11, k12, k13, k14, k15, k16, k17, k18, k19, k20, k21, k22, HW.out⟩
              · -- operation 2
                obtain rfl := k1.out (hd 1 (by decide))
                have HW := Lib.hid hW
                clear hW hL hd
                refine wpOp_step rfl fun K hK => ?_
                go_simp
                refine hK _ _ ⟨_, _, _, _, _, _, _, _, _, _, _, _, _, _, _, _, _, _, _, _, _, _, _, rfl, k0, k1, (Lib.hid fun _ => rfl), k3, k4, k5, k6, k7, k8, k9, k10, k11, k12, k13, k14, k15, k16, k17, k18, k19, k20, k21, k22, HW.out⟩
              · -- operation 3
                obtain rfl := k1.out (hd 1 (by decide))
                have HW := Lib.hid hW
                clear hW hL hd
                refine wpOp_step rfl fun K hK => ?_
                go_simp
                refine hK _ _ ⟨_, _, _, _, _, _, _, _, _, _, _, _, _, _, _, _, _, _, _, _, _, _, _, rfl, k0, k1, k2, (Lib.hid fun _ => rfl), k4, k5, k6, k7, k8, k9, k10, k11, k12, k13, k14, k15, k16, k17, k18, k19, k20, k21, k22, HW.out⟩
              · -- operation 4
                obtain rfl := k1.out (hd 1 (by decide))
                obtain rfl := k2.out (hd 2 (by decide))
                obtain rfl := k3.out (hd 3 (by decide))
                have HW := Lib.hid hW
                clear hW hL hd
                refine wpOp_step rfl fun K hK => ?_
                go_simp
                refine hK _ _ ⟨_, _, _, _, _, _, _, _, _, _, _, _, _, _, _, _, _, _, _, _, _, _, _, rfl, k0, k1, k2, k3, (Lib.hid fun _ => rfl), k5, k6, k7, k8, k9, k10, k11, k12, k13, k14, k15, k16, k17, k18, k19, k20, k21, k22, HW.out⟩
              · -- operation 5
                obtain rfl := k1.out (hd 1 (by decide))
                obtain rfl := k4.out (hd 4 (by decide))
                obtain ⟨c0, c1, c2, c3⟩ := (HRs.out.2.1.by (HW2.out.trans (hW.mono HW2.out.size))).cells (i := k) (by rw [accs_length]; exact hlt) HC.out
                have HW := Lib.hid hW
                clear hW hL hd
                refine wpOp_step rfl fun K hK => ?_
                go_simp
                refine hK _ _ ⟨_, _, _, _, _, _, _, _, _, _, _, _, _, _, _, _, _, _, _, _, _, _, _, rfl, k0, k1, k2, k3, k4, (Lib.hid fun _ => rfl), k6, k7, k8, k9, k10, k11, k12, k13, k14, k15, k16, k17, k18, k19, k20, k21, k22, HW.out⟩
              · -- operation 6
                obtain rfl := k1.out (hd 1 (by decide))
                have HW := Lib.hid hW
                clear hW hL hd
                refine wpOp_step rfl fun K hK => ?_
                go_simp
                refine hK _ _ ⟨_, _, _, _, _, _, _, _, _, _, _, _, _, _, _, _, _, _, _, _, _, _, _, rfl, k0, k1, k2, k3, k4, k5, (Lib.hid fun _ => rfl), k7, k8, k9, k10, k11, k12, k13, k14, k15, k16, k17, k18, k19, k20, k21, k22, HW.out⟩
              · -- operation 7
                obtain rfl := k1.out (hd 1 (by decide))
                have HW := Lib.hid hW
                clear hW hL hd
                refine wpOp_step rfl fun K hK => ?_
                go_simp
                refine hK _ _ ⟨_, _, _, _, _, _, _, _, _, _, _, _, _, _, _, _, _, _, _, _, _, _, _, rfl, k0, k1, k2, k3, k4, k5, k6, (Lib.hid fun _ => rfl), k8, k9, k10, k11, k12, k13, k14, k15, k16, k17, k18, k19, k20, k21, k22, HW.out⟩
              · -- operation 8
                obtain rfl := k1.out (hd 1 (by decide))
                obtain rfl := k5.out (hd 5 (by decide))
                obtain rfl := k6.out (hd 6 (by decide))
                obtain rfl := k7.out (hd 7 (by decide))
                have HW := Lib.hid hW
                clear hW hL hd
                refine wpOp_step rfl fun K hK => ?_
                go_simp
                go_at_call 17
                refine (hasr p q s t x y _ true (HH.out rfl)).mono ?_
                rintro _ w' ⟨rfl, hb⟩
                refine hK _ _ ⟨_, _, _, _, _, _, _, _, _, _, _, _, _, _, _, _, _, _, _, _, _, _, _, rfl, k0, k1, k2, k3, k4, k5, k6, k7, (Lib.hid fun _ => rfl), k9, k10, k11, k12, k13, k14, k15, k16, k17, k18, k19, k20, k21, k22, HW.out.trans (hb.mono HW.out.size)⟩
              · -- operation 9
                obtain rfl := k1.out (hd 1 (by decide))
                obtain rfl := k8.out (hd 8 (by decide))
                have HW := Lib.hid hW
                clear hW hL hd
                refine wpOp_step rfl fun K hK => ?_
                go_simp
                refine hK _ _ ⟨_, _, _, _, _, _, _, _, _, _, _, _, _, _, _, _, _, _, _, _, _, _, _, rfl, k0, k1, k2, k3, k4, k5, k6, k7, k8, (Lib.hid fun _ => rfl), k10, k11, k12, k13, k14, k15, k16, k17, k18, k19, k20, k21, k22, HW.out⟩
              · -- operation 10
                obtain rfl := k1.out (hd 1 (by decide))
                obtain rfl := k9.out (hd 9 (by decide))
                have HW := Lib.hid hW
                clear hW hL hd
                refine wpOp_step rfl fun K hK => ?_
                go_simp
                refine hK _ _ ⟨_, _, _, _, _, _, _, _, _, _, _, _, _, _, _, _, _, _, _, _, _, _, _, rfl, k0, k1, k2, k3, k4, k5, k6, k7, k8, k9, (Lib.hid fun _ => rfl), k11, k12, k13, k14, k15, k16, k17, k18, k19, k20, k21, k22, HW.out⟩
              · -- operation 11
                obtain rfl := k10.out (hd 10 (by decide))
                have HW := Lib.hid hW
                clear hW hL hd
                refine wpOp_step rfl fun K hK => ?_
                go_simp
                refine hK _ _ ⟨_, _, _, _, _, _, _, _, _, _, _, _, _, _, _, _, _, _, _, _, _, _, _, rfl, k0, k1, k2, k3, k4, k5, k6, k7, k8, k9, k10, (Lib.hid fun _ => rfl), k12, k13, k14, k15, k16, k17, k18, k19, k20, k21, k22, HW.out⟩
              · -- operation 12
                obtain rfl := k11.out (hd 11 (by decide))
                have HW := Lib.hid hW
                clear hW hL hd
                refine wpOp_step rfl fun K hK => ?_
                go_simp
                refine hK _ _ ⟨_, _, _, _, _, _, _, _, _, _, _, _, _, _, _, _, _, _, _, _, _, _, _, rfl, k0, k1, k2, k3, k4, k5, k6, k7, k8, k9, k10, k11, (Lib.hid fun _ => rfl), k13, k14, k15, k16, k17, k18, k19, k20, k21, k22, HW.out⟩
              · -- operation 13
                obtain rfl := k11.out (hd 11 (by decide))
                have HW := Lib.hid hW
                clear hW hL hd
                refine wpOp_step rfl fun K hK => ?_
                go_simp
                refine hK _ _ ⟨_, _, _, _, _, _, _, _, _, _, _, _, _, _, _, _, _, _, _, _, _, _, _, rfl, k0, k1, k2, k3, k4, k5, k6, k7, k8, k9, k10, k11, k12, (Lib.hid fun _ => rfl), k14, k15, k16, k17, k18, k19, k20, k21, k22, HW.out⟩
              · -- operation 14
                obtain rfl := k11.out (hd 11 (by decide))
                have HW := Lib.hid hW
                clear hW hL hd
                refine wpOp_step rfl fun K hK => ?_
                go_simp
                refine hK _ _ ⟨_, _, _, _, _, _, _, _, _, _, _, _, _, _, _, _, _, _, _, _, _, _, _, rfl, k0, k1, k2, k3, k4, k5, k6, k7, k8, k9, k10, k11, k12, k13, (Lib.hid fun _ => rfl), k15, k16, k17, k18, k19, k20, k21, k22, HW.out⟩
              · -- operation 15
                obtain rfl := k11.out (hd 11 (by decide))
                obtain rfl := k13.out (hd 13 (by decide))
                obtain rfl := k14.out (hd 14 (by decide))
                have HW := Lib.hid hW
                clear hW hL hd
                refine wpOp_step rfl fun K hK => ?_
                go_simp
                refine hK _ _ ⟨_, _, _, _, _, _, _, _, _, _, _, _, _, _, _, _, _, _, _, _, _, _, _, rfl, k0, k1, k2, k3, k4, k5, k6, k7, k8, k9, k10, k11, k12, k13, k14, (Lib.hid fun _ => rfl), k16, k17, k18, k19, k20, k21, k22, HW.out⟩
              · -- operation 16
                obtain rfl := k11.out (hd 11 (by decide))
                obtain rfl := k15.out (hd 15 (by decide))
                obtain ⟨c0, c1, c2, c3⟩ := (HRs.out.2.1.by (HW2.out.trans (hW.mono HW2.out.size))).cells (i := k) (by rw [accs_length]; exact hlt) HC.out
                have HW := Lib.hid hW
                clear hW hL hd
                refine wpOp_step rfl fun K hK => ?_
                go_simp
                refine hK _ _ ⟨_, _, _, _, _, _, _, _, _, _, _, _, _, _, _, _, _, _, _, _, _, _, _, rfl, k0, k1, k2, k3, k4, k5, k6, k7, k8, k9, k10, k11, k12, k13, k14, k15, (Lib.hid fun _ => rfl), k17, k18, k19, k20, k21, k22, HW.out⟩
              · -- operation 17
                obtain rfl := k11.out (hd 11 (by decide))
                obtain ⟨c0, c1, c2, c3⟩ := (HRs.out.2.2.by (HW2.out.trans (hW.mono HW2.out.size))).four.1
                have HW := Lib.hid hW
                clear hW hL hd
                refine wpOp_step rfl fun K hK => ?_
                go_simp
                refine hK _ _ ⟨_, _, _, _, _, _, _, _, _, _, _, _, _, _, _, _, _, _, _, _, _, _, _, rfl, k0, k1, k2, k3, k4, k5, k6, k7, k8, k9, k10, k11, k12, k13, k14, k15, k16, (Lib.hid fun _ => rfl), k18, k19, k20, k21, k22, HW.out⟩
              · -- operation 18
                obtain rfl := k11.out (hd 11 (by decide))
                obtain rfl := k12.out (hd 12 (by decide))
                obtain rfl := k16.out (hd 16 (by decide))
                obtain rfl := k17.out (hd 17 (by decide))
                have HW := Lib.hid hW
                clear hW hL hd
                refine wpOp_step rfl fun K hK => ?_
                go_simp
                go_at_call 16
                refine (telle p q s t e f g h _ m1' HS.out).mono ?_
                rintro _ w' ⟨rfl, hb⟩
                refine hK _ _ ⟨_, _, _, _, _, _, _, _, _, _, _, _, _, _, _, _, _, _, _, _, _, _, _, rfl, k0, k1, k2, k3, k4, k5, k6, k7, k8, k9, k10, k11, k12, k13, k14, k15, k16, k17, (Lib.hid fun _ => rfl), k19, k20, k21, k22, HW.out.trans (hb.mono HW.out.size)⟩
              · -- operation 19
                obtain rfl := k11.out (hd 11 (by decide))
                obtain rfl := k18.out (hd 18 (by decide))
                have HW := Lib.hid hW
                clear hW hL hd
                refine wpOp_step rfl fun K hK => ?_
                go_simp
                refine hK _ _ ⟨_, _, _, _, _, _, _, _, _, _, _, _, _, _, _, _, _, _, _, _, _, _, _, rfl, k0, k1, k2, k3, k4, k5, k6, k7, k8, k9, k10, k11, k12, k13, k14, k15, k16, k17, k18, (Lib.hid fun _ => rfl), k20, k21, k22, HW.out⟩
              · -- operation 20
                obtain rfl := k11.out (hd 11 (by decide))
                have HW := Lib.hid hW
                clear hW hL hd
                refine wpOp_step rfl fun K hK => ?_
                go_simp
                refine hK _ _ ⟨_, _, _, _, _, _, _, _, _, _, _, _, _, _, _, _, _, _, _, _, _, _, _, rfl, k0, k1, k2, k3, k4, k5, k6, k7, k8, k9, k10, k11, k12, k13, k14, k15, k16, k17, k18, k19, (Lib.hid fun _ => rfl), k21, k22, HW.out⟩
              · -- operation 21
                obtain rfl := k11.out (hd 11 (by decide))
                obtain rfl := k19.out (hd 19 (by decide))
                obtain rfl := k20.out (hd 20 (by decide))
                have HW := Lib.hid hW
                clear hW hL hd
                refine wpOp_step rfl fun K hK => ?_
                go_simp
                refine hK _ _ ⟨_, _, _, _, _, _, _, _, _, _, _, _, _, _, _, _, _, _, _, _, _, _, _, rfl, k0, k1, k2, k3, k4, k5, k6, k7, k8, k9, k10, k11, k12, k13, k14, k15, k16, k17, k18, k19, k20, (Lib.hid fun _ => rfl), k22, HW.out⟩
              · -- operation 22
                obtain rfl := k11.out (hd 11 (by decide))
                obtain rfl := k21.out (hd 21 (by decide))
                have HW := Lib.hid hW
                clear hW hL hd
                refine wpOp_step rfl fun K hK => ?_
                go_simp
                refine hK _ _ ⟨_, _, _, _, _, _, _, _, _, _, _, _, _, _, _, _, _, _, _, _, _, _, _, rfl, k0, k1, k2, k3, k4, k5, k6, k7, k8, k9, k10, k11, k12, k13, k14, k15, k16, k17, k18, k19, k20, k21, (Lib.hid fun _ => rfl), HW.out⟩
            intro L a' u hI hall
            obtain ⟨v50, v51, v52, v53, v54, v55, v56, v57, v58, v59, v60, v61, v62, v63, v64, v65, v66, v67, v68, v69, v70, v71, v72, rfl, k0, k1, k2, k3, k4, k5, k6, k7, k8, k9, k10, k11, k12, k13, k14, k15, k16, k17, k18, k19, k20, k21, k22, hW⟩ := hI
            obtain rfl := k0.out (hall 0 (by decide))
            obtain rfl := k1.out (hall 1 (by decide))
            obtain rfl := k2.out (hall 2 (by decide))
            obtain rfl := k3.out (hall 3 (by decide))
            obtain rfl := k4.out (hall 4 (by decide))
            obtain rfl := k5.out (hall 5 (by decide))
            obtain rfl := k6.out (hall 6 (by decide))
            obtain rfl := k7.out (hall 7 (by decide))
            obtain rfl := k8.out (hall 8 (by decide))
            obtain rfl := k9.out (hall 9 (by decide))
            obtain rfl := k10.out (hall 10 (by decide))
            obtain rfl := k11.out (hall 11 (by decide))
            obtain rfl := k12.out (hall 12 (by decide))
            obtain rfl := k13.out (hall 13 (by decide))
            obtain rfl := k14.out (hall 14 (by decide))
            obtain rfl := k15.out (hall 15 (by decide))
            obtain rfl := k16.out (hall 16 (by decide))
            obtain rfl := k17.out (hall 17 (by decide))
            obtain rfl := k18.out (hall 18 (by decide))
            obtain rfl := k19.out (hall 19 (by decide))
            obtain rfl := k20.out (hall 20 (by decide))
            obtain rfl := k21.out (hall 21 (by decide))
            obtain rfl := k22.out (hall 22 (by decide))
            clear k0 k1 k2 k3 k4 k5 k6 k7 k8 k9 k10 k11 k12 k13 k14 k15 k16 k17 k18 k19 k20 k21 k22 hall
            show wpOps _ _ _ [] _ _
            unfold wpOps
            dsimp only
            have HW3 := Lib.hid (HW2.out.trans (hW.mono HW2.out.size))
            clear hW
            go_wp2
            go_roundw
            case rel => exact ⟨k + 1, by omega, by go_num, by rw [HN1'.out], by rw [HM1'.out], HW3.out⟩
            case measure => simp [intOf]; omega
          | false =>
            refine wp_region_tail [[], [0], [0, 1], [0, 1], [0, 1, 2, 3], [0, 1, 2, 3, 4], [0, 1], [0, 1], [0, 1, 2, 3, 4, 5, 6, 7], [0, 1, 2, 3, 4, 5, 6, 7, 8], [0, 1, 2, 3, 4, 5, 6, 7, 8, 9], [0, 1, 2, 3, 4, 5, 6, 7, 8, 9, 10], [0, 1, 2, 3, 4, 5, 6, 7, 8, 9, 10, 11], [0, 1, 2, 3, 4, 5, 6, 7, 8, 9, 10, 11], [0, 1, 2, 3, 4, 5, 6, 7, 8, 9, 10, 11], [0, 1, 2, 3, 4, 5, 6, 7, 8, 9, 10, 11, 13, 14], [0, 1, 2, 3, 4, 5, 6, 7, 8, 9, 10, 11, 13, 14, 15], [0, 1, 2, 3, 4, 5, 6, 7, 8, 9, 10, 11], [0, 1, 2, 3, 4, 5, 6, 7, 8, 9, 10, 11, 12, 13, 14, 15, 16, 17], [0, 1, 2, 3, 4, 5, 6, 7, 8, 9, 10, 11, 12, 13, 14, 15, 16, 17, 18], [0, 1, 2, 3, 4, 5, 6, 7, 8, 9, 10, 11], [0, 1, 2, 3, 4, 5, 6, 7, 8, 9, 10, 11, 12, 13, 14, 15, 16, 17, 18, 19, 20], [0, 1, 2, 3, 4, 5, 6, 7, 8, 9, 10, 11, 12, 13, 14, 15, 16, 17, 18, 19, 20, 21]] (by kernel_rfl) (by kernel_rfl) 23 rfl (by decide) (by decide) (by kernel_rfl)
              (fun L a' u => ∃ v50 v51 v52 v53 v54 v55 v56 v57 v58 v59 v60 v61 v62 v63 v64 v65 v66 v67 v68 v69 v70 v71 v72 : Value, a' = ⟨#[Value.slice A1 n1 c1, Value.slice A2 n2 c2, Value.int IntKind.i64 x, Value.int IntKind.i64 y, undef, undef, undef, undef, u8, Value.slice (some { block := g9, off := o9 }) l.length c9, Value.pointer (some { block := g10, off := 0 }), Value.slice (some { block := g11, off := o11 }) l.length c11, Value.bool false, Value.bool m1', Value.int IntKind.i64 ↑k, Value.pointer (some { block := wr.heap.size, off := 0 }), Value.slice A1 n1 c1, Value.slice (some { block := g9, off := o9 }) l.length c9, Value.slice A2 n2 c2, Value.agg #[Value.int IntKind.i64 e, Value.int IntKind.i64 f, Value.int IntKind.i64 g, Value.int IntKind.i64 h], Value.slice (some { block := g9, off := o9 }) l.length c9, Value.slice (some { block := g11, off := o11 }) l.length c11, Value.slice (some { block := g11, off := o11 }) l.length c11, Value.int IntKind.i64 ↑l.length, Value.slice (some { block := g9, off := o9 }) l.length c9, Value.int IntKind.i64 ↑l.length, Value.bool false, Value.slice (some { block := g9, off := o9 }) l.length c9, Value.int IntKind.i64 ↑l.length, Value.int IntKind.i64 ↑k, u30, u31, u32, u33, u34, u35, u36, u37, u38, u39, u40, u41, u42, u43, u44, u45, u46, u47, u48, u49, v50, v51, v52, v53, v54, v55, v56, v57, v58, v59, v60, v61, v62, v63, v64, v65, v66, v67, v68, v69, v70, v71, v72, u73], []⟩ ∧
                Hid (L 0 = true → v50 = .bool false) ∧ Hid (L 1 = true → v51 = .bool false) ∧ Hid (L 2 = true → v52 = undef) ∧ Hid (L 3 = true → v53 = undef) ∧ Hid (L 4 = true → v54 = undef) ∧ Hid (L 5 = true → v55 = undef) ∧ Hid (L 6 = true → v56 = undef) ∧ Hid (L 7 = true → v57 = undef) ∧ Hid (L 8 = true → v58 = undef) ∧ Hid (L 9 = true → v59 = undef) ∧ Hid (L 10 = true → v60 = .bool false) ∧ Hid (L 11 = true → v61 = .bool false) ∧ Hid (L 12 = true → v62 = .agg #[.int .i64 0, .int .i64 0]) ∧ Hid (L 13 = true → v63 = .slice (some ⟨g11, o11, none⟩) l.length c11) ∧ Hid (L 14 = true → v64 = .int .i64 ↑k) ∧ Hid (L 15 = true → v65 = .pointer (some ⟨g11, o11 + k * 4, none⟩)) ∧ Hid (L 16 = true → v66 = .agg #[.int .i64 p, .int .i64 q, .int .i64 s, .int .i64 t]) ∧ Hid (L 17 = true → v67 = .agg #[.int .i64 e, .int .i64 f, .int .i64 g, .int .i64 h]) ∧ Hid (L 18 = true → v68 = .agg #[.bool (R.has ⟨p, q, s, t⟩ 0 0), .bool m1', .bool (R.over ⟨p, q, s, t⟩ ⟨e, f, g, h⟩), .bool (R.empty ⟨p, q, s, t⟩), .bool (R.same ⟨p, q, s, t⟩ ⟨e, f, g, h⟩), .int .i64 (wrap64 (s - p)), .int .i64 (wrap64 (t - q))]) ∧ Hid (L 19 = true → v69 = .bool m1') ∧ Hid (L 20 = true → v70 = .bool m1') ∧ Hid (L 21 = true → v71 = .bool false) ∧ Hid (L 22 = true → v72 = .bool false) ∧ (Below wc.heap.size wc u)) ?_ ?_ ?_
            · refine ⟨_, _, _, _, _, _, _, _, _, _, _, _, _, _, _, _, _, _, _, _, _, _, _, rfl, (Lib.hid fun h => by cases h), (Lib.hid fun h => by cases h), (Lib.hid fun h => by cases h), (Lib.hid fun h => by cases h), (Lib.hid fun h => by cases h), (Lib.hid fun h => by cases h), (Lib.hid fun h => by cases h), (Lib.hid fun h => by cases h), (Lib.hid fun h => by cases h), (Lib.hid fun h => by cases h), (Lib.hid fun h => by cases h), (Lib.hid fun h => by cases h), (Lib.hid fun h => by cases h), (Lib.hid fun h => by cases h), (Lib.hid fun h => by cases h), (Lib.hid fun h => by cases h), (Lib.hid fun h => by cases h), (Lib.hid fun h => by cases h), (Lib.hid fun h => by cases h), (Lib.hid fun h => by cases h), (Lib.hid fun h => by cases h), (Lib.hid fun h => by cases h), (Lib.hid fun h => by cases h), ?_⟩
              exact (Below.refl _ _).drew
            · intro L a' u i hi hI hL hd
              obtain ⟨v50, v51, v52, v53, v54, v55, v56, v57, v58, v59, v60, v61, v62, v63, v64, v65, v66, v67, v68, v69, v70, v71, v72, rfl, k0, k1, k2, k3, k4, k5, k6, k7, k8, k9, k10, k11, k12, k13, k14, k15, k16, k17, k18, k19, k20, k21, k22, hW⟩ := hI
              obtain rfl | rfl | rfl | rfl | rfl | rfl | rfl | rfl | rfl | rfl | rfl | rfl | rfl | rfl | rfl | rfl | rfl | rfl | rfl | rfl | rfl | rfl | rfl : i = 0 ∨ i = 1 ∨ i = 2 ∨ i = 3 ∨ i = 4 ∨ i = 5 ∨ i = 6 ∨ i = 7 ∨ i = 8 ∨ i = 9 ∨ i = 10 ∨ i = 11 ∨ i = 12 ∨ i = 13 ∨ i = 14 ∨ i = 15 ∨ i = 16 ∨ i = 17 ∨ i = 18 ∨ i = 19 ∨ i = 20 ∨ i = 21 ∨ i = 22 := by omega
              · -- operation 0
                have HW := Lib.hid hW
                clear hW hL hd
                refine wpOp_step rfl fun K hK => ?_
                go_simp
                refine hK _ _ ⟨_, _, _, _, _, _, _, _, _, _, _, _, _, _, _, _, _, _, _, _, _, _, _, rfl, (Lib.hid fun _ => rfl), k1, k2, k3, k4, k5, k6, k7, k8, k9, k10, k11, k12, k13, k14, k15, k16, k17, k18, k19, k20, k21, k22, HW.out⟩
              · -- operation 1
                obtain rfl := k0.out (hd 0 (by decide))
                have HW := Lib.hid hW
                clear hW hL hd
                refine wpOp_step rfl fun K hK => ?_
                go_simp
                refine hK _ _ ⟨_, _, _, _, _, _, _, _, _, _, _, _, _, _, _, _, _, _, _, _, _, _, _, rfl, k0, (Lib.hid fun _ => rfl), k2, k3, k4, k5, k6, k7, k8, k9, k10, k11, k12, k13, k14, k15, k16, k17, k18, k19, k20, k21, k22, HW.out⟩
              · -- operation 2
                obtain rfl := k1.out (hd 1 (by decide))
                have HW := Lib.hid hW
                clear hW hL hd
                refine wpOp_step rfl fun K hK => ?_
                go_simp
                refine hK _ _ ⟨_, _, _, _, _, _, _, _, _, _, _, _, _, _, _, _, _, _, _, _, _, _, _, rfl, k0, k1, (Lib.hid fun _ => rfl), k3, k4, k5, k6, k7, k8, k9, k10, k11, k12, k13, k14, k15, k16, k17, k18, k19, k20, k21, k22, HW.out⟩
              · -- operation 3
                obtain rfl := k1.out (hd 1 (by decide))
                have HW := Lib.hid hW
                clear hW hL hd
                refine wpOp_step rfl fun K hK => ?_
                go_simp
                refine hK _ _ ⟨_, _, _, _, _, _, _, _, _, _, _, _, _, _, _, _, _, _, _, _, _, _, _, rfl, k0, k1, k2, (Lib.hid fun _ => rfl), k4, k5, k6, k7, k8, k9, k10, k11, k12, k13, k14, k15, k16, k17, k18, k19, k20, k21, k22, HW.out⟩
              · -- operation 4
                obtain rfl := k1.out (hd 1 (by decide))
                obtain rfl := k2.out (hd 2 (by decide))
                obtain rfl := k3.out (hd 3 (by decide))
                have HW := Lib.hid hW
                clear hW hL hd
                refine wpOp_step rfl fun K hK => ?_
                go_simp
                refine hK _ _ ⟨_, _, _, _, _, _, _, _, _, _, _, _, _, _, _, _, _, _, _, _, _, _, _, rfl, k0, k1, k2, k3, (Lib.hid fun _ => rfl), k5, k6, k7, k8, k9, k10, k11, k12, k13, k14, k15, k16, k17, k18, k19, k20, k21, k22, HW.out⟩
              · -- operation 5
                obtain rfl := k1.out (hd 1 (by decide))
                obtain rfl := k4.out (hd 4 (by decide))
                have HW := Lib.hid hW
                clear hW hL hd
                refine wpOp_step rfl fun K hK => ?_
                go_simp
                refine hK _ _ ⟨_, _, _, _, _, _, _, _, _, _, _, _, _, _, _, _, _, _, _, _, _, _, _, rfl, k0, k1, k2, k3, k4, (Lib.hid fun _ => rfl), k6, k7, k8, k9, k10, k11, k12, k13, k14, k15, k16, k17, k18, k19, k20, k21, k22, HW.out⟩
              · -- operation 6
                obtain rfl := k1.out (hd 1 (by decide))
                have HW := Lib.hid hW
                clear hW hL hd
                refine wpOp_step rfl fun K hK => ?_
                go_simp
                refine hK _ _ ⟨_, _, _, _, _, _, _, _, _, _, _, _, _, _, _, _, _, _, _, _, _, _, _, rfl, k0, k1, k2, k3, k4, k5, (Lib.hid fun _ => rfl), k7, k8, k9, k10, k11, k12, k13, k14, k15, k16, k17, k18, k19, k20, k21, k22, HW.out⟩
              · -- operation 7
                obtain rfl := k1.out (hd 1 (by decide))
                have HW := Lib.hid hW
                clear hW hL hd
                refine wpOp_step rfl fun K hK => ?_
                go_simp
                refine hK _ _ ⟨_, _, _, _, _, _, _, _, _, _, _, _, _, _, _, _, _, _, _, _, _, _, _, rfl, k0, k1, k2, k3, k4, k5, k6, (Lib.hid fun _ => rfl), k8, k9, k10, k11, k12, k13, k14, k15, k16, k17, k18, k19, k20, k21, k22, HW.out⟩
              · -- operation 8
                obtain rfl := k1.out (hd 1 (by decide))
                obtain rfl := k5.out (hd 5 (by decide))
                obtain rfl := k6.out (hd 6 (by decide))
                obtain rfl := k7.out (hd 7 (by decide))
                have HW := Lib.hid hW
                clear hW hL hd
                refine wpOp_step rfl fun K hK => ?_
                go_simp
                refine hK _ _ ⟨_, _, _, _, _, _, _, _, _, _, _, _, _, _, _, _, _, _, _, _, _, _, _, rfl, k0, k1, k2, k3, k4, k5, k6, k7, (Lib.hid fun _ => rfl), k9, k10, k11, k12, k13, k14, k15, k16, k17, k18, k19, k20, k21, k22, HW.out⟩
              · -- operation 9
                obtain rfl := k1.out (hd 1 (by decide))
                obtain rfl := k8.out (hd 8 (by decide))
                have HW := Lib.hid hW
                clear hW hL hd
                refine wpOp_step rfl fun K hK => ?_
                go_simp
                refine hK _ _ ⟨_, _, _, _, _, _, _, _, _, _, _, _, _, _, _, _, _, _, _, _, _, _, _, rfl, k0, k1, k2, k3, k4, k5, k6, k7, k8, (Lib.hid fun _ => rfl), k10, k11, k12, k13, k14, k15, k16, k17, k18, k19, k20, k21, k22, HW.out⟩
              · -- operation 10
                obtain rfl := k1.out (hd 1 (by decide))
                obtain rfl := k9.out (hd 9 (by decide))
                have HW := Lib.hid hW
                clear hW hL hd
                refine wpOp_step rfl fun K hK => ?_
                go_simp
                refine hK _ _ ⟨_, _, _, _, _, _, _, _, _, _, _, _, _, _, _, _, _, _, _, _, _, _, _, rfl, k0, k1, k2, k3, k4, k5, k6, k7, k8, k9, (Lib.hid fun _ => rfl), k11, k12, k13, k14, k15, k16, k17, k18, k19, k20, k21, k22, HW.out⟩
              · -- operation 11
                obtain rfl := k10.out (hd 10 (by decide))
                have HW := Lib.hid hW
                clear hW hL hd
                refine wpOp_step rfl fun K hK => ?_
                go_simp
                refine hK _ _ ⟨_, _, _, _, _, _, _, _, _, _, _, _, _, _, _, _, _, _, _, _, _, _, _, rfl, k0, k1, k2, k3, k4, k5, k6, k7, k8, k9, k10, (Lib.hid fun _ => rfl), k12, k13, k14, k15, k16, k17, k18, k19, k20, k21, k22, HW.out⟩
              · -- operation 12
                obtain rfl := k11.out (hd 11 (by decide))
                have HW := Lib.hid hW
                clear hW hL hd
                refine wpOp_step rfl fun K hK => ?_
                go_simp
                refine hK _ _ ⟨_, _, _, _, _, _, _, _, _, _, _, _, _, _, _, _, _, _, _, _, _, _, _, rfl, k0, k1, k2, k3, k4, k5, k6, k7, k8, k9, k10, k11, (Lib.hid fun _ => rfl), k13, k14, k15, k16, k17, k18, k19, k20, k21, k22, HW.out⟩
              · -- operation 13
                obtain rfl := k11.out (hd 11 (by decide))
                have HW := Lib.hid hW
                clear hW hL hd
                refine wpOp_step rfl fun K hK => ?_
                go_simp
                refine hK _ _ ⟨_, _, _, _, _, _, _, _, _, _, _, _, _, _, _, _, _, _, _, _, _, _, _, rfl, k0, k1, k2, k3, k4, k5, k6, k7, k8, k9, k10, k11, k12, (Lib.hid fun _ => rfl), k14, k15, k16, k17, k18, k19, k20, k21, k22, HW.out⟩
              · -- operation 14
                obtain rfl := k11.out (hd 11 (by decide))
                have HW := Lib.hid hW
                clear hW hL hd
                refine wpOp_step rfl fun K hK => ?_
                go_simp
                refine hK _ _ ⟨_, _, _, _, _, _, _, _, _, _, _, _, _, _, _, _, _, _, _, _, _, _, _, rfl, k0, k1, k2, k3, k4, k5, k6, k7, k8, k9, k10, k11, k12, k13, (Lib.hid fun _ => rfl), k15, k16, k17, k18, k19, k20, k21, k22, HW.out⟩
              · -- operation 15
                obtain rfl := k11.out (hd 11 (by decide))
                obtain rfl := k13.out (hd 13 (by decide))
                obtain rfl := k14.out (hd 14 (by decide))
                have HW := Lib.hid hW
                clear hW hL hd
                refine wpOp_step rfl fun K hK => ?_
                go_simp
                refine hK _ _ ⟨_, _, _, _, _, _, _, _, _, _, _, _, _, _, _, _, _, _, _, _, _, _, _, rfl, k0, k1, k2, k3, k4, k5, k6, k7, k8, k9, k10, k11, k12, k13, k14, (Lib.hid fun _ => rfl), k16, k17, k18, k19, k20, k21, k22, HW.out⟩
              · -- operation 16
                obtain rfl := k11.out (hd 11 (by decide))
                obtain rfl := k15.out (hd 15 (by decide))
                obtain ⟨c0, c1, c2, c3⟩ := (HRs.out.2.1.by (HW2.out.trans (hW.mono HW2.out.size))).cells (i := k) (by rw [accs_length]; exact hlt) HC.out
                have HW := Lib.hid hW
                clear hW hL hd
                refine wpOp_step rfl fun K hK => ?_
                go_simp
                refine hK _ _ ⟨_, _, _, _, _, _, _, _, _, _, _, _, _, _, _, _, _, _, _, _, _, _, _, rfl, k0, k1, k2, k3, k4, k5, k6, k7, k8, k9, k10, k11, k12, k13, k14, k15, (Lib.hid fun _ => rfl), k17, k18, k19, k20, k21, k22, HW.out⟩
              · -- operation 17
                obtain rfl := k11.out (hd 11 (by decide))
                obtain ⟨c0, c1, c2, c3⟩ := (HRs.out.2.2.by (HW2.out.trans (hW.mono HW2.out.size))).four.1
                have HW := Lib.hid hW
                clear hW hL hd
                refine wpOp_step rfl fun K hK => ?_
                go_simp
                refine hK _ _ ⟨_, _, _, _, _, _, _, _, _, _, _, _, _, _, _, _, _, _, _, _, _, _, _, rfl, k0, k1, k2, k3, k4, k5, k6, k7, k8, k9, k10, k11, k12, k13, k14, k15, k16, (Lib.hid fun _ => rfl), k18, k19, k20, k21, k22, HW.out⟩
              · -- operation 18
                obtain rfl := k11.out (hd 11 (by decide))
                obtain rfl := k12.out (hd 12 (by decide))
                obtain rfl := k16.out (hd 16 (by decide))
                obtain rfl := k17.out (hd 17 (by decide))
                have HW := Lib.hid hW
                clear hW hL hd
                refine wpOp_step rfl fun K hK => ?_
                go_simp
                go_at_call 16
                refine (telle p q s t e f g h _ m1' HS.out).mono ?_
                rintro _ w' ⟨rfl, hb⟩
                refine hK _ _ ⟨_, _, _, _, _, _, _, _, _, _, _, _, _, _, _, _, _, _, _, _, _, _, _, rfl, k0, k1, k2, k3, k4, k5, k6, k7, k8, k9, k10, k11, k12, k13, k14, k15, k16, k17, (Lib.hid fun _ => rfl), k19, k20, k21, k22, HW.out.trans (hb.mono HW.out.size)⟩
              · -- operation 19
                obtain rfl := k11.out (hd 11 (by decide))
                obtain rfl := k18.out (hd 18 (by decide))
                have HW := Lib.hid hW
                clear hW hL hd
                refine wpOp_step rfl fun K hK => ?_
                go_simp
                refine hK _ _ ⟨_, _, _, _, _, _, _, _, _, _, _, _, _, _, _, _, _, _, _, _, _, _, _, rfl, k0, k1, k2, k3, k4, k5, k6, k7, k8, k9, k10, k11, k12, k13, k14, k15, k16, k17, k18, (Lib.hid fun _ => rfl), k20, k21, k22, HW.out⟩
              · -- operation 20
                obtain rfl := k11.out (hd 11 (by decide))
                have HW := Lib.hid hW
                clear hW hL hd
                refine wpOp_step rfl fun K hK => ?_
                go_simp
                refine hK _ _ ⟨_, _, _, _, _, _, _, _, _, _, _, _, _, _, _, _, _, _, _, _, _, _, _, rfl, k0, k1, k2, k3, k4, k5, k6, k7, k8, k9, k10, k11, k12, k13, k14, k15, k16, k17, k18, k19, (Lib.hid fun _ => rfl), k21, k22, HW.out⟩
              · -- operation 21
                obtain rfl := k11.out (hd 11 (by decide))
                obtain rfl := k19.out (hd 19 (by decide))
                obtain rfl := k20.out (hd 20 (by decide))
                have HW := Lib.hid hW
                clear hW hL hd
                refine wpOp_step rfl fun K hK => ?_
                go_simp
                refine hK _ _ ⟨_, _, _, _, _, _, _, _, _, _, _, _, _, _, _, _, _, _, _, _, _, _, _, rfl, k0, k1, k2, k3, k4, k5, k6, k7, k8, k9, k10, k11, k12, k13, k14, k15, k16, k17, k18, k19, k20, (Lib.hid fun _ => rfl), k22, HW.out⟩
              · -- operation 22
                obtain rfl := k11.out (hd 11 (by decide))
                obtain rfl := k21.out (hd 21 (by decide))
                have HW := Lib.hid hW
                clear hW hL hd
                refine wpOp_step rfl fun K hK => ?_
                go_simp
                refine hK _ _ ⟨_, _, _, _, _, _, _, _, _, _, _, _, _, _, _, _, _, _, _, _, _, _, _, rfl, k0, k1, k2, k3, k4, k5, k6, k7, k8, k9, k10, k11, k12, k13, k14, k15, k16, k17, k18, k19, k20, k21, (Lib.hid fun _ => rfl), HW.out⟩
            intro L a' u hI hall
            obtain ⟨v50, v51, v52, v53, v54, v55, v56, v57, v58, v59, v60, v61, v62, v63, v64, v65, v66, v67, v68, v69, v70, v71, v72, rfl, k0, k1, k2, k3, k4, k5, k6, k7, k8, k9, k10, k11, k12, k13, k14, k15, k16, k17, k18, k19, k20, k21, k22, hW⟩ := hI
            obtain rfl := k0.out (hall 0 (by decide))
            obtain rfl := k1.out (hall 1 (by decide))
            obtain rfl := k2.out (hall 2 (by decide))
            obtain rfl := k3.out (hall 3 (by decide))
            obtain rfl := k4.out (hall 4 (by decide))
            obtain rfl := k5.out (hall 5 (by decide))
            obtain rfl := k6.out (hall 6 (by decide))
            obtain rfl := k7.out (hall 7 (by decide))
            obtain rfl := k8.out (hall 8 (by decide))
            obtain rfl := k9.out (hall 9 (by decide))
            obtain rfl := k10.out (hall 10 (by decide))
            obtain rfl := k11.out (hall 11 (by decide))
            obtain rfl := k12.out (hall 12 (by decide))
            obtain rfl := k13.out (hall 13 (by decide))
            obtain rfl := k14.out (hall 14 (by decide))
            obtain rfl := k15.out (hall 15 (by decide))
            obtain rfl := k16.out (hall 16 (by decide))
            obtain rfl := k17.out (hall 17 (by decide))
            obtain rfl := k18.out (hall 18 (by decide))
            obtain rfl := k19.out (hall 19 (by decide))
            obtain rfl := k20.out (hall 20 (by decide))
            obtain rfl := k21.out (hall 21 (by decide))
            obtain rfl := k22.out (hall 22 (by decide))
            clear k0 k1 k2 k3 k4 k5 k6 k7 k8 k9 k10 k11 k12 k13 k14 k15 k16 k17 k18 k19 k20 k21 k22 hall
            show wpOps _ _ _ [] _ _
            unfold wpOps
            dsimp only
            have HW3 := Lib.hid (HW2.out.trans (hW.mono HW2.out.size))
            clear hW
            go_wp2
            go_roundw
            case rel => exact ⟨k + 1, by omega, by go_num, by rw [HN1'.out], by rw [HM1'.out], HW3.out⟩
            case measure => simp [intOf]; omega
    · obtain rfl : k = l.length := by omega
      have HB := Lib.hid hbel
      clear hbel
      go_wp2
      go_ret
      exact ⟨rfl, HB3.out.trans (HB.out.mono HB3.out.size)⟩
end Go.Proofs.Ytojplcchoffapaa
