/- The contracts of Point.Sub, Point.Add and Point.Mod. Conditions: none; for Mod near numbers and a rectangle with points. -/
import Derived.Test.YtojplcchoffapaaLeaf4
import Derived.Test.YtojplcchoffapaaAts
import Derived.Test.YtojplcchoffapaaBlocks
import Derived.Test.YtojplcchoffapaaTail
import Derived.Deep.DeepCutAuto
import Derived.Outline
namespace Go.Proofs.Ytojplcchoffapaa
open Go.RowKit

/-- it returns the point x, y of the package image -/
def RetP (x y : Int) (w : World) (e : Ending) (w' : World) : Prop := e = .returned (.agg #[.int .i64 x, .int .i64 y]) ∧ Below w.heap.size w w'
set_option maxHeartbeats 1000000 in
theorem psub_any (a b c d : Int) (w : World) : Calls Try.prog 47 #[.agg #[.int .i64 a, .int .i64 b], .agg #[.int .i64 c, .int .i64 d]] w (RetP (wrap64 (a - c)) (wrap64 (b - d)) w) := by
  go_enter Try.func47, Try.ntmps47
  go_wp2
  exact bodyPost_ret (results_cell_row rfl _ _ (w.heap.size + 2) _ _ _ _ rfl (heap_last3 _ _ _ _) Try.underlying59 rfl (by kernel_rfl)) rfl ⟨rfl, three_new _ _ _ _⟩
set_option maxHeartbeats 1000000 in
theorem padd_any (a b c d : Int) (w : World) : Calls Try.prog 48 #[.agg #[.int .i64 a, .int .i64 b], .agg #[.int .i64 c, .int .i64 d]] w (RetP (wrap64 (a + c)) (wrap64 (b + d)) w) := by
  go_enter Try.func48, Try.ntmps48
  go_wp2
  exact bodyPost_ret (results_cell_row rfl _ _ (w.heap.size + 2) _ _ _ _ rfl (heap_last3 _ _ _ _) Try.underlying59 rfl (by kernel_rfl)) rfl ⟨rfl, three_new _ _ _ _⟩

/-- one axis of Mod -/
def modI (x a n : Int) : Int := a + (x - a) % n
theorem tmod_neg_or (v n : Int) (hn : 0 < n) : (v.tmod n < 0 ∧ v.tmod n + n = v % n) ∨ (0 ≤ v.tmod n ∧ v.tmod n = v % n) := by
  have h1 := Int.emod_nonneg v (show n ≠ 0 by omega)
  have h2 := Int.emod_lt_of_pos v hn
  rcases Int.le_total 0 v with h | h
  · rw [Int.tmod_eq_emod_of_nonneg h]
    exact .inr ⟨h1, rfl⟩
  · have e : v.tmod n = -((-v).tmod n) := by rw [Int.neg_tmod]; omega
    rw [e, Int.tmod_eq_emod_of_nonneg (by omega)]
    have h3 := Int.emod_nonneg (-v) (show n ≠ 0 by omega)
    have h4 := Int.emod_lt_of_pos (-v) hn
    have h5 := Int.mul_ediv_add_emod v n
    have h6 := Int.mul_ediv_add_emod (-v) n
    by_cases hz : (-v) % n = 0
    · right
      have hd : n ∣ v := by
        have := Int.dvd_of_emod_eq_zero hz
        exact (Int.dvd_neg).1 this
      have := Int.emod_eq_zero_of_dvd hd
      omega
    · left
      refine ⟨by omega, ?_⟩
      rw [Int.neg_emod] at h3 h4 hz ⊢
      split at hz
      · exact absurd rfl hz
      · rename_i hnd
        simp only [hnd, if_false] at h3 h4 ⊢
        omega
theorem dx_of (a b c d n : Int) (h : wrap64 (c - a) = n) (w : World) : Calls Try.prog 45 #[.agg #[.int .i64 a, .int .i64 b, .int .i64 c, .int .i64 d]] w fun e w' => e = .returned (.int .i64 n) ∧ Below w.heap.size w w' := by
  subst h
  exact (dx_at a b c d w).mono fun _ _ ⟨h1, h2⟩ => ⟨h1, h2 ▸ (Below.refl _ _).alloc (Nat.le_refl _) _⟩
theorem dy_of (a b c d n : Int) (h : wrap64 (d - b) = n) (w : World) : Calls Try.prog 46 #[.agg #[.int .i64 a, .int .i64 b, .int .i64 c, .int .i64 d]] w fun e w' => e = .returned (.int .i64 n) ∧ Below w.heap.size w w' := by
  subst h
  exact (dy_at a b c d w).mono fun _ _ ⟨h1, h2⟩ => ⟨h1, h2 ▸ (Below.refl _ _).alloc (Nat.le_refl _) _⟩
theorem psub_of (a b c d m n : Int) (h1 : wrap64 (a - c) = m) (h2 : wrap64 (b - d) = n) (w : World) : Calls Try.prog 47 #[.agg #[.int .i64 a, .int .i64 b], .agg #[.int .i64 c, .int .i64 d]] w (RetP m n w) := by
  subst h1 h2
  exact psub_any a b c d w
theorem padd_of (a b c d m n : Int) (h1 : wrap64 (a + c) = m) (h2 : wrap64 (b + d) = n) (w : World) : Calls Try.prog 48 #[.agg #[.int .i64 a, .int .i64 b], .agg #[.int .i64 c, .int .i64 d]] w (RetP m n w) := by
  subst h1 h2
  exact padd_any a b c d w
/-- a number is near -/
def Near (x : Int) : Prop := -9007199254740992 ≤ x ∧ x ≤ 9007199254740992
/-- what Mod keeps: the point, the rectangle, the result -/
def ModMem (u : World) (g : Nat) (x y a b c d : Int) : Prop := At u g 59 [.int .i64 x, .int .i64 y] ∧ At u (g + 1) 61 [.int .i64 a, .int .i64 b, .int .i64 c, .int .i64 d] ∧ At u (g + 1 + 1) 59 [.int .i64 0, .int .i64 0]
theorem ModMem.by {u u' : World} {g : Nat} {x y a b c d : Int} (h : ModMem u g x y a b c d) (hb : Below u.heap.size u u') : ModMem u' g x y a b c d := ⟨h.1.by hb, h.2.1.by hb, h.2.2.by hb⟩

def tab_mod1 : List (List Nat) := [[], [0], [], [0, 1, 2], [0, 1, 2, 3], [0, 1, 2, 3, 4]]
set_option maxHeartbeats 2000000 in
theorem mod_near (x y a b c d : Int) (w : World) (hx : Near x) (hy : Near y) (ha : Near a) (hb : Near b) (hc : Near c) (hd : Near d) (h1 : a < c) (h2 : b < d) :
    Calls Try.prog 40 #[.agg #[.int .i64 x, .int .i64 y], .agg #[.int .i64 a, .int .i64 b, .int .i64 c, .int .i64 d]] w (RetP (modI x a (c - a)) (modI y b (d - b)) w) := by
  obtain ⟨m, hm⟩ : ∃ m, c - a = m := ⟨_, rfl⟩
  obtain ⟨k, hk⟩ : ∃ k, d - b = k := ⟨_, rfl⟩
  unfold Near at *
  have HW := Lib.hid (show wrap64 (c - a) = m by rw [IntWalk.wrap64_in _ (by omega)]; exact hm)
  have HH := Lib.hid (show wrap64 (d - b) = k by rw [IntWalk.wrap64_in _ (by omega)]; exact hk)
  have hm0 : 0 < m := by omega
  have hk0 : 0 < k := by omega
  have hmb : m ≤ 18014398509481984 := by omega
  have hkb : k ≤ 18014398509481984 := by omega
  rw [hm, hk]
  have HN := Lib.hid (And.intro hx (And.intro hy (And.intro ha hb)))
  clear hx hy ha hb hc hd h1 h2 hm hk
  have HDX := Lib.hid (fun u => dx_of a b c d m HW.out u)
  have HDY := Lib.hid (fun u => dy_of a b c d k HH.out u)
  go_enter Try.func40, Try.ntmps40
  go_wp2_with fail
  refine from_table tab_mod1 (by kernel_rfl) (by kernel_rfl) (by kernel_rfl) (by kernel_rfl) fun hTab => ?_
  refine from_gen (fun u => ModMem u w.heap.size x y a b c d ∧ Below w.heap.size w u) ?_ ?_
  · refine ⟨⟨?_, ?_, ?_⟩, ?_⟩
    · (repeat first | exact At.new' _ _ _ (by first | rfl | (simp only [size_alloc])) | refine At.drew ?_ | refine At.alloc ?_ _)
    · (repeat first | exact At.new' _ _ _ (by first | rfl | (simp only [size_alloc])) | refine At.drew ?_ | refine At.alloc ?_ _)
    · (repeat first | exact At.new' _ _ _ (by first | rfl | (simp only [size_alloc])) | refine At.drew ?_ | refine At.alloc ?_ _)
    · (repeat first | exact Below.refl _ _ | refine Below.drew ?_ | refine Below.alloc ?_ (by first | exact Nat.le_refl _ | (simp only [size_alloc]; omega)) _)
  intro u hW
  -- operations 0 to 2
  refine from_block' hTab 0 3 (by decide) (by kernel_rfl)
    (fun L a' u => ∃ v7 v8 v9 : Value, a' = ⟨#[.agg #[.int .i64 x, .int .i64 y], .agg #[.int .i64 a, .int .i64 b, .int .i64 c, .int .i64 d], .pointer (some ⟨w.heap.size, 0, none⟩), .pointer (some ⟨w.heap.size + 1, 0, none⟩), .pointer (some ⟨w.heap.size + 1 + 1, 0, none⟩), undef, undef, v7, v8, v9, undef, undef, undef, undef, undef, undef, undef, undef, undef, undef, undef, undef, undef, undef, undef, undef, undef, undef, undef, undef, undef, undef, undef, undef, undef, undef, undef, undef, undef, undef, undef, undef, undef, undef, undef], []⟩ ∧
      Hid (L 0 = true → v7 = .agg #[.int .i64 a, .int .i64 b, .int .i64 c, .int .i64 d]) ∧ Hid (L 1 = true → v8 = .int .i64 m) ∧ Hid (L 2 = true → v9 = .agg #[.int .i64 a, .int .i64 b, .int .i64 c, .int .i64 d]) ∧ (ModMem u w.heap.size x y a b c d ∧ Below w.heap.size w u)) ?_ ?_ ?_
  · exact ⟨_, _, _, rfl, (Lib.hid fun h => by cases h), (Lib.hid fun h => by cases h), (Lib.hid fun h => by cases h), hW⟩
  · clear hW
    intro L a' u i hi1 hi2 hI hL hd
    obtain ⟨v7, v8, v9, rfl, k0, k1, k2, hW⟩ := hI
    obtain rfl | rfl | rfl := (show ∀ i : Nat, 0 ≤ i → i < 3 → (i = 0 ∨ i = 1 ∨ i = 2) by omega) i hi1 hi2
    · -- operation 0
      obtain ⟨c0, c1, c2, c3⟩ := hW.1.2.1.four.1
      have HW := Lib.hid hW
      clear hW hL hd hi1 hi2
      refine wpOp_step rfl fun K hK => ?_
      go_simp
      refine hK _ _ ⟨_, _, _, rfl, (Lib.hid fun _ => rfl), k1, k2, HW.out⟩
    · -- operation 1
      obtain rfl := k0.out (hd 0 (by decide))
      have HW := Lib.hid hW
      clear hW hL hd hi1 hi2
      refine wpOp_step rfl fun K hK => ?_
      go_simp
      go_at_call 45
      refine (HDX.out _).mono ?_
      rintro _ w' ⟨rfl, hb⟩
      refine hK _ _ ⟨_, _, _, rfl, k0, (Lib.hid fun _ => rfl), k2, ⟨HW.out.1.by hb, HW.out.2.trans (hb.mono HW.out.2.size)⟩⟩
    · -- operation 2
      obtain ⟨c0, c1, c2, c3⟩ := hW.1.2.1.four.1
      have HW := Lib.hid hW
      clear hW hL hd hi1 hi2
      refine wpOp_step rfl fun K hK => ?_
      go_simp
      refine hK _ _ ⟨_, _, _, rfl, k0, k1, (Lib.hid fun _ => rfl), HW.out⟩
  clear hW
  clear u
  intro L a' u hI hall
  obtain ⟨v7, v8, v9, rfl, k0, k1, k2, hW⟩ := hI
  obtain rfl := k0.out (hall 0 (by decide))
  obtain rfl := k1.out (hall 1 (by decide))
  obtain rfl := k2.out (hall 2 (by decide))
  clear k0 k1 k2 hall L
  -- operation 3 alone
  refine from_one' hTab 3 (by kernel_rfl) ?_
  have HW := Lib.hid hW
  clear hW
  refine wpOp_step rfl fun K hK => ?_
  go_simp
  go_at_call 46
  refine (HDY.out _).mono ?_
  rintro _ w' ⟨rfl, hb⟩
  refine hK _ _ ?_
  clear hK K
  refine from_gen (fun u => (ModMem u w.heap.size x y a b c d ∧ Below w.heap.size w u)) (⟨HW.out.1.by hb, HW.out.2.trans (hb.mono HW.out.2.size)⟩) ?_
  clear hb HW
  intro u hW
  -- operation 4 alone
  refine from_one' hTab 4 (by kernel_rfl) ?_
  have HW := Lib.hid hW
  clear hW
  refine wpOp_step rfl fun K hK => ?_
  go_simp
  refine hK _ _ ?_
  clear hK K
  have hW := HW.out
  clear HW
  -- operation 5 alone
  refine from_one' hTab 5 (by kernel_rfl) ?_
  have HW := Lib.hid hW
  clear hW
  refine wpOp_step rfl fun K hK => ?_
  go_simp
  refine hK _ _ ?_
  clear hK K
  have hW := HW.out
  clear HW
  refine from_end' hTab 6 (by kernel_rfl) ?_
  clear hTab
  have HM := Lib.hid hW
  clear hW
  obtain ⟨⟨p0, p1⟩, f0, f1⟩ := HM.out.1.1.two
  obtain ⟨⟨q0, q1, q2, q3⟩, -⟩ := HM.out.1.2.1.four
  go_wp2_with fail
  clear p0 p1 f0 f1 q0 q1 q2 q3
  obtain ⟨vx, hvx⟩ : ∃ v, x - a = v := ⟨_, rfl⟩
  obtain ⟨vy, hvy⟩ : ∃ v, y - b = v := ⟨_, rfl⟩
  refine (psub_of x y a b vx vy (by have := HN.out; rw [IntWalk.wrap64_in _ (by omega)]; exact hvx) (by have := HN.out; rw [IntWalk.wrap64_in _ (by omega)]; exact hvy) _).mono ?_
  rintro _ w2 ⟨rfl, hb2⟩
  obtain ⟨mx, hmx⟩ : ∃ v, vx % m = v := ⟨_, rfl⟩
  obtain ⟨my, hmy⟩ : ∃ v, vy % k = v := ⟨_, rfl⟩
  have hbx := Int.emod_nonneg vx (show m ≠ 0 by omega)
  have hbx2 := Int.emod_lt_of_pos vx hm0
  have hby := Int.emod_nonneg vy (show k ≠ 0 by omega)
  have hby2 := Int.emod_lt_of_pos vy hk0
  rw [hmx] at hbx hbx2
  rw [hmy] at hby hby2
  have hdx := tmod_neg_or vx m hm0
  have hdy := tmod_neg_or vy k hk0
  rw [hmx] at hdx
  rw [hmy] at hdy
  have HDX2 := Lib.hid hdx
  have HDY2 := Lib.hid hdy
  have HE := Lib.hid (And.intro hvx (And.intro hvy (And.intro hmx hmy)))
  have hmem := HM.out.1.by hb2
  have hbel := HM.out.2.trans (hb2.mono HM.out.2.size)
  have h0 := hmem.1.set2 (.int .i64 vx) (.int .i64 vy)
  have h1 := (hmem.2.1.far (p := ⟨w.heap.size, 0, none⟩) (show _ ≠ w.heap.size by omega) (.int .i64 vx)).far (p := ⟨w.heap.size, 1, none⟩) (show _ ≠ w.heap.size by omega) (.int .i64 vy)
  have h2 := (hmem.2.2.far (p := ⟨w.heap.size, 0, none⟩) (show _ ≠ w.heap.size by omega) (.int .i64 vx)).far (p := ⟨w.heap.size, 1, none⟩) (show _ ≠ w.heap.size by omega) (.int .i64 vy)
  have h3 := (hbel.setCell (p := ⟨w.heap.size, 0, none⟩) (Nat.le_refl _) (.int .i64 vx)).setCell (p := ⟨w.heap.size, 1, none⟩) (Nat.le_refl _) (.int .i64 vy)
  obtain ⟨⟨p0, p1⟩, f0, f1⟩ := hmem.1.two
  have HM2 := Lib.hid (And.intro (show ModMem _ w.heap.size vx vy a b c d from ⟨h0, h1, h2⟩) h3)
  clear hvx hvy hmx hmy hdx hdy hmem hbel h0 h1 h2 h3 hb2 HM
  go_upto_region 3 with fail
  clear p0 p1 f0 f1
  obtain ⟨w3, hw3⟩ : ∃ w3, w3 = (w2.setCell ⟨w.heap.size, 0, none⟩ (.int .i64 vx)).setCell ⟨w.heap.size, 1, none⟩ (.int .i64 vy) := ⟨_, rfl⟩
  rw [← hw3] at HM2 ⊢
  clear hw3
  obtain ⟨⟨p0, p1⟩, f0, f1⟩ := HM2.out.1.1.two
  obtain ⟨t, ht⟩ : ∃ t, vx.tmod m = t := ⟨_, rfl⟩
  have hD := HDX2.out
  rw [ht] at hD
  have HD := Lib.hid hD
  have b0 : (m == 0) = false := beq_eq_false_iff_ne.2 (by omega)
  have b1 : ¬ m = 0 := by omega
  clear hD
  go_upto_if 22 with fail
  have hs0 := HM2.out.1.1.set_ 0 (.int .i64 t)
  have hs1 := HM2.out.1.2.1.far (p := ⟨w.heap.size, 0, none⟩) (show _ ≠ w.heap.size by omega) (.int .i64 t)
  have hs2 := HM2.out.1.2.2.far (p := ⟨w.heap.size, 0, none⟩) (show _ ≠ w.heap.size by omega) (.int .i64 t)
  have hs3 := HM2.out.2.setCell (p := ⟨w.heap.size, 0, none⟩) (Nat.le_refl _) (.int .i64 t)
  have HQ := Lib.hid (And.intro (show ModMem _ w.heap.size t vy a b c d from ⟨hs0, hs1, hs2⟩) hs3)
  clear hs0 hs1 hs2 hs3 p0 p1 f0 f1 ht b0 b1
  obtain ⟨wq, hwq⟩ : ∃ wq, wq = w3.setCell ⟨w.heap.size, 0, none⟩ (.int .i64 t) := ⟨_, rfl⟩
  rw [← hwq] at HQ ⊢
  clear hwq
  go_cut [] (fun wx => ModMem wx w.heap.size mx vy a b c d ∧ Below w.heap.size w wx)
  case first =>
    obtain ⟨⟨p0, p1⟩, f0, f1⟩ := HQ.out.1.1.two
    by_cases hneg : t < 0
    · have e : IntKind.i64.wrap (t + m) = mx := by
        rcases HD.out with h | h
        · rw [h.2]; exact IntWalk.i64_in _ (by omega)
        · omega
      go_wp2
      go_meet
      exact ⟨⟨HQ.out.1.1.set_ 0 _, HQ.out.1.2.1.far (show _ ≠ w.heap.size by omega) _, HQ.out.1.2.2.far (show _ ≠ w.heap.size by omega) _⟩, HQ.out.2.setCell (Nat.le_refl _) _⟩
    · obtain rfl : t = mx := by
        rcases HD.out with h | h
        · omega
        · exact h.2
      go_wp2
      go_meet
      exact HQ.out
  case rest =>
    have HM4 := Lib.hid hcut
    clear hcut HM2 HQ HD
    obtain ⟨⟨p0, p1⟩, f0, f1⟩ := HM4.out.1.1.two
    obtain ⟨t, ht⟩ : ∃ t, vy.tmod k = t := ⟨_, rfl⟩
    have hD := HDY2.out
    rw [ht] at hD
    have HD := Lib.hid hD
    have b0 : (k == 0) = false := beq_eq_false_iff_ne.2 (by omega)
    have b1 : ¬ k = 0 := by omega
    clear hD
    go_upto_if 35 with fail
    have hs0 := HM4.out.1.1.set_ 1 (.int .i64 t)
    have hs1 := HM4.out.1.2.1.far (p := ⟨w.heap.size, 1, none⟩) (show _ ≠ w.heap.size by omega) (.int .i64 t)
    have hs2 := HM4.out.1.2.2.far (p := ⟨w.heap.size, 1, none⟩) (show _ ≠ w.heap.size by omega) (.int .i64 t)
    have hs3 := HM4.out.2.setCell (p := ⟨w.heap.size, 1, none⟩) (Nat.le_refl _) (.int .i64 t)
    have HQ := Lib.hid (And.intro (show ModMem _ w.heap.size mx t a b c d from ⟨hs0, hs1, hs2⟩) hs3)
    clear hs0 hs1 hs2 hs3 p0 p1 f0 f1 ht b0 b1
    obtain ⟨wq, hwq⟩ : ∃ wq, wq = wc.setCell ⟨w.heap.size, 1, none⟩ (.int .i64 t) := ⟨_, rfl⟩
    rw [← hwq] at HQ ⊢
    clear hwq
    go_cut [] (fun wx => ModMem wx w.heap.size mx my a b c d ∧ Below w.heap.size w wx)
    case first =>
      obtain ⟨⟨p0, p1⟩, f0, f1⟩ := HQ.out.1.1.two
      by_cases hneg : t < 0
      · have e : IntKind.i64.wrap (t + k) = my := by
          rcases HD.out with h | h
          · rw [h.2]; exact IntWalk.i64_in _ (by omega)
          · omega
        go_wp2
        go_meet
        exact ⟨⟨HQ.out.1.1.set_ 1 _, HQ.out.1.2.1.far (show _ ≠ w.heap.size by omega) _, HQ.out.1.2.2.far (show _ ≠ w.heap.size by omega) _⟩, HQ.out.2.setCell (Nat.le_refl _) _⟩
      · obtain rfl : t = my := by
          rcases HD.out with h | h
          · omega
          · exact h.2
        go_wp2
        go_meet
        exact HQ.out
    case rest =>
      have HM5 := Lib.hid hcut
      clear hcut HM4 HQ HD
      obtain ⟨⟨p0, p1⟩, -⟩ := HM5.out.1.1.two
      obtain ⟨⟨q0, q1, q2, q3⟩, -⟩ := HM5.out.1.2.1.four
      go_wp2_with fail
      clear p0 p1 q0 q1 q2 q3
      refine (padd_of mx my a b (modI x a m) (modI y b k) (by have := HN.out; unfold modI; rw [HE.out.1, HE.out.2.2.1, IntWalk.wrap64_in _ (by omega)]; omega) (by have := HN.out; unfold modI; rw [HE.out.2.1, HE.out.2.2.2, IntWalk.wrap64_in _ (by omega)]; omega) _).mono ?_
      rintro _ w6 ⟨rfl, hb6⟩
      have h4 := HM5.out.1.2.2.by hb6
      have hB := HM5.out.2.trans (hb6.mono HM5.out.2.size)
      obtain ⟨⟨p0, p1⟩, f0, f1⟩ := h4.two
      have H4 := Lib.hid h4
      have HB := Lib.hid hB
      clear h4 hB hb6
      go_wp2
      exact bodyPost_ret (results_cell_row rfl _ _ (w.heap.size + 1 + 1) _ _ _ _ rfl (H4.out.set2 _ _) Try.underlying59 rfl (by kernel_rfl)) rfl ⟨rfl, (HB.out.setCell (show w.heap.size ≤ w.heap.size + 1 + 1 by omega) _).setCell (show w.heap.size ≤ w.heap.size + 1 + 1 by omega) _⟩
end Go.Proofs.Ytojplcchoffapaa
