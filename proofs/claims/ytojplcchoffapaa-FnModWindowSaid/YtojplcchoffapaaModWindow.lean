/- The walk of FnModWindow. Conditions: none. -/
import Derived.Test.YtojplcchoffapaaModSums
namespace Go.Proofs.Ytojplcchoffapaa
open Go.RowKit

/-- the first k points of a window -/
def win (x y w : Int) (k : Nat) : List P := (List.range k).map fun (j : Nat) => ⟨x + (j : Int) % w, y + (j : Int) / w⟩
theorem win_length (x y w : Int) (k : Nat) : (win x y w k).length = k := by simp [win]
theorem win_succ (x y w : Int) (k : Nat) : win x y w (k + 1) = win x y w k ++ [⟨x + (k : Int) % w, y + (k : Int) / w⟩] := by simp [win, List.range_succ]
theorem win_near (x y w h : Int) (k : Nat) (hx : -1125899906842624 ≤ x ∧ x ≤ 1125899906842624) (hy : -1125899906842624 ≤ y ∧ y ≤ 1125899906842624) (hw : 1 ≤ w) (hw2 : w ≤ 40) (hh : 1 ≤ h) (hh2 : h ≤ 40) (hk : (k : Int) ≤ w * h) : ∀ p ∈ win x y w k, NearP p := by
  intro p hp
  simp only [win, List.mem_map, List.mem_range] at hp
  obtain ⟨j, hj, rfl⟩ := hp
  have h1 := Int.emod_nonneg (j : Int) (show w ≠ 0 by omega)
  have h2 := Int.emod_lt_of_pos (j : Int) (show 0 < w by omega)
  have h3 : 0 ≤ (j : Int) / w := Int.ediv_nonneg (by omega) (by omega)
  have h4 : (j : Int) / w < h := Int.ediv_lt_of_lt_mul (by omega) (by rw [Int.mul_comm]; omega)
  simp only [NearP, Near]
  omega
theorem ownP_empty (w : World) : OwnP (w.alloc (.cells #[] 27)) w.heap.size (.slice (some ⟨w.heap.size, 0, none⟩) 0 0) [] :=
  World.ownsRow_lit w _ 0 (Nat.le_refl _) (Nat.zero_le _) rfl
/-- a block of another type stays when a slice of points grows -/
theorem atP_grown {w w' : World} {base g : Nat} {v : Value} {l : List P} {t : TypeId} {vs : List Value} (h : At w g t vs) (hown : OwnP w base v l) (hg : w.grownBy w' v.ownBlock) (ht : t ≠ 27) : At w' g t vs := by
  refine (hg.block g h.lt (fun e => ?_)).trans h
  rcases hown.2 with ⟨rfl, _⟩ | ⟨k, cap, cur, rfl, hk, hh, _⟩
  · simp [Value.ownBlock] at e
  · have hkg : g = k := by simpa [Value.ownBlock] using e
    subst hkg
    unfold At at h
    rw [hh] at h
    injection h with h
    injection h with _ e2
    exact ht e2.symm
theorem infoBool : (Try.prog.info? 4).map (fun i => (i.zero, i.size, i.bytes)) = some (some (.bool false), 1, 1) := by kernel_rfl
theorem made_marks (f : Nat → Nat) (n : Nat) : (madeCells #[Value.bool false] (n * 1)) = (marks f n 0).toArray := by
  rw [marks_zero]
  unfold madeCells
  apply Array.ext
  · simp
  · intro i h1 h2
    simp [Nat.mod_one]

def tab_modw11 : List (List Nat) := [[], [], [], [], [2, 3], [1, 2, 3, 4], [], [], [], [7, 8], [6, 7, 8, 9], [1, 2, 3, 4, 5, 6, 7, 8, 9, 10], [1, 2, 3, 4, 5, 6, 7, 8, 9, 10, 11], [0, 1, 2, 3, 4, 5, 6, 7, 8, 9, 10, 11, 12], [0, 1, 2, 3, 4, 5, 6, 7, 8, 9, 10, 11, 12, 13]]
def tab_modw19 : List (List Nat) := [[], [0], [], [2], [], [4], [0, 1, 2, 3, 4, 5], [0, 1, 2, 3, 4, 5, 6]]
set_option maxHeartbeats 8000000 in
theorem modwindow_walk (A : Option Addr) (n c0 : Nat) (z : List Int) (wd ht x y : Int) (w : World) (h : Ints w A n z) :
    Calls Try.prog 6 #[.slice A n c0, .int .i64 wd, .int .i64 ht, .int .i64 x, .int .i64 y] w fun e w' => e = .returned (.bool true) ∧ Below w.heap.size w w' := by
  have L1 := fun u hu => lrect_any A n c0 z u hu
  generalize rectOf z = r at L1
  obtain ⟨a, b, e1, e2⟩ := r
  have HL1 := Lib.hid L1
  have H1 := Lib.hid h
  clear L1 h
  obtain ⟨s1, hs1⟩ : ∃ p, allB 1125899906842624 [x, y] = p := ⟨_, rfl⟩
  obtain ⟨s2, hs2⟩ : ∃ p, allB 1125899906842624 [a, b] = p := ⟨_, rfl⟩
  have HS1 := Lib.hid hs1
  have HS2 := Lib.hid hs2
  clear hs1 hs2
  go_enter Try.func6, Try.ntmps6
  go_wp2_with fail
  have hS := Small_any 1125899906842624 _ 2 2 _ _ (At.ints (zs := [x, y]) (At.new w 3 [.int .i64 x, .int .i64 y])) (by omega) (by omega) (by omega)
  rw [HS1.out] at hS
  refine hS.mono ?_
  rintro _ w1 ⟨rfl, hb1⟩
  have HB1 := Lib.hid (((Below.refl w.heap.size w).alloc (Nat.le_refl _) (.cells #[.int .i64 x, .int .i64 y] 3)).trans (hb1.mono (by simp)))
  clear hb1 hS
  cases s1 with
  | false =>
    go_wp2
    go_ret
    exact ⟨rfl, HB1.out⟩
  | true =>
  by_cases hw1 : wd < 1
  · have b1 : decide (wd < 1) = true := decide_eq_true hw1
    go_wp2
    go_ret
    exact ⟨rfl, HB1.out⟩
  have b1 : decide (wd < 1) = false := decide_eq_false hw1
  have HW1 := Lib.hid hw1
  clear hw1
  by_cases hw2 : 40 < wd
  · have b2 : decide (40 < wd) = true := decide_eq_true hw2
    go_wp2
    go_ret
    exact ⟨rfl, HB1.out⟩
  have b2 : decide (40 < wd) = false := decide_eq_false hw2
  have HW2 := Lib.hid hw2
  clear hw2
  by_cases hh1 : ht < 1
  · have b3 : decide (ht < 1) = true := decide_eq_true hh1
    go_wp2
    go_ret
    exact ⟨rfl, HB1.out⟩
  have b3 : decide (ht < 1) = false := decide_eq_false hh1
  have HH1 := Lib.hid hh1
  clear hh1
  by_cases hh2 : 40 < ht
  · have b4 : decide (40 < ht) = true := decide_eq_true hh2
    go_wp2
    go_ret
    exact ⟨rfl, HB1.out⟩
  have b4 : decide (40 < ht) = false := decide_eq_false hh2
  have HH2 := Lib.hid hh2
  clear hh2
  go_wp2_with fail
  refine (HL1.out _ (H1.out.below (Nat.le_refl _) HB1.out)).mono ?_
  rintro _ w2 ⟨rfl, hb2⟩
  have HB2 := Lib.hid (HB1.out.trans (hb2.mono HB1.out.size))
  clear hb2 HB1 H1 HL1
  go_wp2_with fail
  have hg3 := At.new (w2.alloc (.cells #[.int .i64 a, .int .i64 b, .int .i64 e1, .int .i64 e2] 24)) 3 [.int .i64 a, .int .i64 b]
  have h11 := (At.new w2 24 [.int .i64 a, .int .i64 b, .int .i64 e1, .int .i64 e2]).alloc (.cells #[.int .i64 a, .int .i64 b] 3)
  rw [size_alloc] at hg3
  have hS := Small_any 1125899906842624 _ 2 2 _ _ (At.ints (zs := [a, b]) hg3) (by omega) (by omega) (by omega)
  rw [HS2.out] at hS
  refine hS.mono ?_
  rintro _ w3 ⟨rfl, hb3⟩
  have hb3' := (((Below.refl w2.heap.size w2).alloc (Nat.le_refl _) (.cells #[.int .i64 a, .int .i64 b, .int .i64 e1, .int .i64 e2] 24)).alloc (by rw [size_alloc]; omega) (.cells #[.int .i64 a, .int .i64 b] 3)).trans (hb3.mono (by simp only [size_alloc]; omega))
  have HB3 := Lib.hid (And.intro (h11.by hb3) (HB2.out.trans (hb3'.mono HB2.out.size)))
  have hg11 := HB2.out.size
  clear hb3 hb3' hS hg3 h11 HB2
  generalize w2.heap.size = g11 at *
  cases s2 with
  | false =>
    go_wp2
    go_ret
    exact ⟨rfl, HB3.out.2⟩
  | true =>
  have hn1 := HS1.out
  have hn2 := HS2.out
  simp only [allB, List.all_cons, List.all_nil, Bool.and_true, Bool.and_eq_true, okB_iff] at hn1 hn2
  obtain ⟨⟨hx1, hx2⟩, hy1, hy2⟩ := hn1
  obtain ⟨⟨ha1, ha2⟩, hb1, hb2⟩ := hn2
  have hw1 := HW1.out
  have hw2 := HW2.out
  have hh1 := HH1.out
  have hh2 := HH2.out
  obtain ⟨c, hc⟩ : ∃ c, a + wd = c := ⟨_, rfl⟩
  obtain ⟨d, hd⟩ : ∃ d, b + ht = d := ⟨_, rfl⟩
  have hadd1 : IntKind.i64.wrap (a + wd) = c := by rw [← hc]; exact IntWalk.i64_in _ (by omega)
  have hadd2 : IntKind.i64.wrap (b + ht) = d := by rw [← hd]; exact IntWalk.i64_in _ (by omega)
  obtain ⟨⟨c0', c1', c2', c3'⟩, f0', f1', f2', f3'⟩ := HB3.out.1.four
  have hs1 := HB3.out.1.set_ 2 (.int .i64 c)
  have hs2 := hs1.set_ 3 (.int .i64 d)
  have hs3 := (HB3.out.2.setCell (p := ⟨g11, 2, none⟩) hg11 (.int .i64 c)).setCell (p := ⟨g11, 3, none⟩) hg11 (.int .i64 d)
  simp only [List.set_cons_succ, List.set_cons_zero] at hs2
  have HB4 := Lib.hid (And.intro hs2 hs3)
  have HD := Lib.hid (show (1 ≤ wd ∧ wd ≤ 40) ∧ 1 ≤ ht ∧ ht ≤ 40 by omega)
  have HN := Lib.hid (And.intro (And.intro hx1 hx2) (And.intro (And.intro hy1 hy2) (And.intro (And.intro ha1 ha2) (And.intro hb1 (And.intro hb2 (And.intro hc hd))))))
  clear hs1 hs2 hs3 hx1 hx2 hy1 hy2 ha1 ha2 hb1 hb2 hc hd hw1 hw2 hh1 hh2 HW1 HW2 HH1 HH2
  go_upto_region 7 with fail
  clear c0' c1' c2' c3' f0' f1' f2' f3' hadd1 hadd2
  obtain ⟨w4, hw4⟩ : ∃ u, u = (w3.setCell ⟨g11, 2, none⟩ (.int .i64 c)).setCell ⟨g11, 3, none⟩ (.int .i64 d) := ⟨_, rfl⟩
  rw [← hw4] at HB4 ⊢
  clear hw4 HB3
  obtain ⟨N, hN, hN1⟩ : ∃ N : Nat, wd * ht = (N : Int) ∧ N ≤ 1600 := by
    obtain ⟨⟨hw1, hw2⟩, hh1, hh2⟩ := HD.out
    have h0 := Int.mul_nonneg (show 0 ≤ wd by omega) (show 0 ≤ ht by omega)
    have h1 := Int.mul_le_mul hw2 hh2 (by omega) (by omega)
    exact ⟨(wd * ht).toNat, by omega, by omega⟩
  have hmul : IntKind.i64.wrap (N : Int) = N := IntWalk.i64_in _ (by omega)
  go_wp2
  go_loopw [12, 13] (fun v i wr => ∃ k : Nat, k ≤ N ∧ i = .int .i64 k ∧ OwnP wr w.heap.size v (win x y wd k) ∧ At wr g11 24 [.int .i64 a, .int .i64 b, .int .i64 c, .int .i64 d] ∧ Below w.heap.size w wr) (fun _ i _ => N - (intOf i).toNat)
  case atStart => exact ⟨0, Nat.zero_le _, rfl, (ownP_empty _).mono HB4.out.2.size, HB4.out.1.alloc _, HB4.out.2.alloc HB4.out.2.size _⟩
  case round =>
    obtain ⟨k, hk, rfl, hown, hat, hbel⟩ := hrel
    by_cases hlt : k < N
    · obtain ⟨p, hp⟩ : ∃ p, (k : Int) % wd = p := ⟨_, rfl⟩
      obtain ⟨q, hq⟩ : ∃ q, (k : Int) / wd = q := ⟨_, rfl⟩
      obtain ⟨⟨hw1, hw2⟩, hh1, hh2⟩ := HD.out
      have h1 := Int.emod_nonneg (k : Int) (show wd ≠ 0 by omega)
      have h2 := Int.emod_lt_of_pos (k : Int) (show 0 < wd by omega)
      have h3 : 0 ≤ (k : Int) / wd := Int.ediv_nonneg (by omega) (by omega)
      have h4 : (k : Int) / wd < ht := Int.ediv_lt_of_lt_mul (by omega) (by rw [Int.mul_comm]; omega)
      have hsn := win_succ x y wd k
      rw [hp] at h1 h2 hsn
      rw [hq] at h3 h4 hsn
      have hp2 : (k : Int).tmod wd = p := by rw [Int.tmod_eq_emod_of_nonneg (by omega)]; exact hp
      have hn := HN.out
      have hb1 : ¬ wd = 0 := by omega
      have hw1' : IntKind.i64.wrap q = q := IntWalk.i64_in _ (by omega)
      have hw2' : IntKind.i64.wrap (x + p) = x + p := IntWalk.i64_in _ (by omega)
      have hw3' : IntKind.i64.wrap (y + q) = y + q := IntWalk.i64_in _ (by omega)
      have HP := Lib.hid (And.intro hp2 hq)
      have HPQ := Lib.hid (And.intro hw1' (And.intro hw2' hw3'))
      have HPR := Lib.hid (And.intro (And.intro h1 h2) (And.intro h3 h4))
      clear hp hq hn h1 h2 h3 h4 hw1' hw2' hw3' hp2 hw1 hw2 hh1 hh2
      have HI := Lib.hid (And.intro hown (And.intro hat hbel))
      clear hown hat hbel
      go_upto_region 11 with fail
      refine from_table tab_modw11 (by kernel_rfl) (by kernel_rfl) (by kernel_rfl) (by kernel_rfl) fun hTab => ?_
      refine from_gen (fun u => Below wr.heap.size wr u) ?_ ?_
      · exact (Below.refl _ _).drew
      intro u hW
      -- operations 0 to 12
      refine from_block' hTab 0 13 (by decide) (by kernel_rfl)
        (fun L a' u => ∃ v68 v69 v70 v71 v72 v73 v74 v75 v76 v77 v78 v79 v80 : Value, a' = ⟨#[Value.slice A n c0, .int .i64 wd, .int .i64 ht, .int .i64 x, .int .i64 y, undef, undef, undef, undef, undef, .bool false, .pointer (some ⟨g11, 0, none⟩), u12, .int .i64 ↑k, undef, undef, undef, undef, undef, undef, .int .i64 x, .int .i64 y, .slice (some ⟨w.heap.size, 0, none⟩) 2 2, .bool true, .bool false, .bool false, .int .i64 wd, .bool false, .bool false, .bool false, .int .i64 wd, .bool false, .bool false, .bool false, .int .i64 ht, .bool false, .bool false, .bool false, .int .i64 ht, .bool false, .bool false, Value.slice A n c0, .agg #[.int .i64 a, .int .i64 b, .int .i64 e1, .int .i64 e2], .pointer (some ⟨g11, 0, none⟩), .int .i64 a, .pointer (some ⟨g11, 1, none⟩), .int .i64 b, .slice (some ⟨g11 + 1, 0, none⟩) 2 2, .bool true, .bool false, .pointer (some ⟨g11, 0, none⟩), .int .i64 a, .int .i64 wd, .int .i64 c, .pointer (some ⟨g11, 1, none⟩), .int .i64 b, .int .i64 ht, .int .i64 d, .pointer (some ⟨g11, 2, none⟩), .pointer (some ⟨g11, 3, none⟩), .slice (some ⟨w4.heap.size, 0, none⟩) 0 0, .int .i64 ↑k, .int .i64 wd, .int .i64 ht, .int .i64 ↑N, .bool true, u66, u67, v68, v69, v70, v71, v72, v73, v74, v75, v76, v77, v78, v79, v80, u81, undef, undef, undef, undef, undef, undef, undef, undef, undef, undef, undef, undef, undef, undef, undef, undef, undef, undef, undef, undef, undef, undef, undef, undef, undef, undef, undef, undef, undef, undef, undef, undef, undef, undef, undef, undef, undef, undef, undef, undef, undef, undef, undef, undef, undef, undef, undef, undef, undef, undef, undef, undef], []⟩ ∧
          Hid (L 0 = true → v68 = u12) ∧ Hid (L 1 = true → v69 = .int .i64 x) ∧ Hid (L 2 = true → v70 = .int .i64 ↑k) ∧ Hid (L 3 = true → v71 = .int .i64 wd) ∧ Hid (L 4 = true → v72 = .int .i64 p) ∧ Hid (L 5 = true → v73 = .int .i64 ((x + p))) ∧ Hid (L 6 = true → v74 = .int .i64 y) ∧ Hid (L 7 = true → v75 = .int .i64 ↑k) ∧ Hid (L 8 = true → v76 = .int .i64 wd) ∧ Hid (L 9 = true → v77 = .int .i64 q) ∧ Hid (L 10 = true → v78 = .int .i64 ((y + q))) ∧ Hid (L 11 = true → v79 = .agg #[.int .i64 ((x + p)), .int .i64 ((y + q))]) ∧ Hid (L 12 = true → ∃ g80, v80 = .slice (some ⟨g80, 0, none⟩) 1 1 ∧ wr.heap.size ≤ g80 ∧ At u g80 27 [.int .i64 ((x + p)), .int .i64 ((y + q))]) ∧ (Below wr.heap.size wr u)) ?_ ?_ ?_
      · exact ⟨_, _, _, _, _, _, _, _, _, _, _, _, _, rfl, (Lib.hid fun h => by cases h), (Lib.hid fun h => by cases h), (Lib.hid fun h => by cases h), (Lib.hid fun h => by cases h), (Lib.hid fun h => by cases h), (Lib.hid fun h => by cases h), (Lib.hid fun h => by cases h), (Lib.hid fun h => by cases h), (Lib.hid fun h => by cases h), (Lib.hid fun h => by cases h), (Lib.hid fun h => by cases h), (Lib.hid fun h => by cases h), (Lib.hid fun h => by cases h), hW⟩
      · clear hW
        intro L a' u i hi1 hi2 hI hL hd
        obtain ⟨v68, v69, v70, v71, v72, v73, v74, v75, v76, v77, v78, v79, v80, rfl, k0, k1, k2, k3, k4, k5, k6, k7, k8, k9, k10, k11, k12, hW⟩ := hI
        obtain rfl | rfl | rfl | rfl | rfl | rfl | rfl | rfl | rfl | rfl | rfl | rfl | rfl := (show ∀ i : Nat, 0 ≤ i → i < 13 → (i = 0 ∨ i = 1 ∨ i = 2 ∨ i = 3 ∨ i = 4 ∨ i = 5 ∨ i = 6 ∨ i = 7 ∨ i = 8 ∨ i = 9 ∨ i = 10 ∨ i = 11 ∨ i = 12) by omega) i hi1 hi2
        · -- operation 0
          have HW := Lib.hid hW
          clear hW hL hd hi1 hi2
          refine wpOp_step rfl fun K hK => ?_
          go_simp
          refine hK _ _ ⟨_, _, _, _, _, _, _, _, _, _, _, _, _, rfl, (Lib.hid fun _ => rfl), k1, k2, k3, k4, k5, k6, k7, k8, k9, k10, k11, k12, HW.out⟩
        · -- operation 1
          have HW := Lib.hid hW
          clear hW hL hd hi1 hi2
          refine wpOp_step rfl fun K hK => ?_
          go_simp
          refine hK _ _ ⟨_, _, _, _, _, _, _, _, _, _, _, _, _, rfl, k0, (Lib.hid fun _ => rfl), k2, k3, k4, k5, k6, k7, k8, k9, k10, k11, k12, HW.out⟩
        · -- operation 2
          have HW := Lib.hid hW
          clear hW hL hd hi1 hi2
          refine wpOp_step rfl fun K hK => ?_
          go_simp
          refine hK _ _ ⟨_, _, _, _, _, _, _, _, _, _, _, _, _, rfl, k0, k1, (Lib.hid fun _ => rfl), k3, k4, k5, k6, k7, k8, k9, k10, k11, k12, HW.out⟩
        · -- operation 3
          have HW := Lib.hid hW
          clear hW hL hd hi1 hi2
          refine wpOp_step rfl fun K hK => ?_
          go_simp
          refine hK _ _ ⟨_, _, _, _, _, _, _, _, _, _, _, _, _, rfl, k0, k1, k2, (Lib.hid fun _ => rfl), k4, k5, k6, k7, k8, k9, k10, k11, k12, HW.out⟩
        · -- operation 4
          obtain rfl := k2.out (hd 2 (by decide))
          obtain rfl := k3.out (hd 3 (by decide))
          have HW := Lib.hid hW
          clear hW hL hd hi1 hi2
          refine wpOp_step rfl fun K hK => ?_
          go_simp
          rw [HP.out.1]
          refine hK _ _ ⟨_, _, _, _, _, _, _, _, _, _, _, _, _, rfl, k0, k1, k2, k3, (Lib.hid fun _ => rfl), k5, k6, k7, k8, k9, k10, k11, k12, HW.out⟩
        · -- operation 5
          obtain rfl := k1.out (hd 1 (by decide))
          obtain rfl := k4.out (hd 4 (by decide))
          have HW := Lib.hid hW
          clear hW hL hd hi1 hi2
          refine wpOp_step rfl fun K hK => ?_
          go_simp
          rw [HPQ.out.2.1]
          refine hK _ _ ⟨_, _, _, _, _, _, _, _, _, _, _, _, _, rfl, k0, k1, k2, k3, k4, (Lib.hid fun _ => rfl), k6, k7, k8, k9, k10, k11, k12, HW.out⟩
        · -- operation 6
          have HW := Lib.hid hW
          clear hW hL hd hi1 hi2
          refine wpOp_step rfl fun K hK => ?_
          go_simp
          refine hK _ _ ⟨_, _, _, _, _, _, _, _, _, _, _, _, _, rfl, k0, k1, k2, k3, k4, k5, (Lib.hid fun _ => rfl), k7, k8, k9, k10, k11, k12, HW.out⟩
        · -- operation 7
          have HW := Lib.hid hW
          clear hW hL hd hi1 hi2
          refine wpOp_step rfl fun K hK => ?_
          go_simp
          refine hK _ _ ⟨_, _, _, _, _, _, _, _, _, _, _, _, _, rfl, k0, k1, k2, k3, k4, k5, k6, (Lib.hid fun _ => rfl), k8, k9, k10, k11, k12, HW.out⟩
        · -- operation 8
          have HW := Lib.hid hW
          clear hW hL hd hi1 hi2
          refine wpOp_step rfl fun K hK => ?_
          go_simp
          refine hK _ _ ⟨_, _, _, _, _, _, _, _, _, _, _, _, _, rfl, k0, k1, k2, k3, k4, k5, k6, k7, (Lib.hid fun _ => rfl), k9, k10, k11, k12, HW.out⟩
        · -- operation 9
          obtain rfl := k7.out (hd 7 (by decide))
          obtain rfl := k8.out (hd 8 (by decide))
          have HW := Lib.hid hW
          clear hW hL hd hi1 hi2
          refine wpOp_step rfl fun K hK => ?_
          go_simp
          rw [HP.out.2, HPQ.out.1]
          refine hK _ _ ⟨_, _, _, _, _, _, _, _, _, _, _, _, _, rfl, k0, k1, k2, k3, k4, k5, k6, k7, k8, (Lib.hid fun _ => rfl), k10, k11, k12, HW.out⟩
        · -- operation 10
          obtain rfl := k6.out (hd 6 (by decide))
          obtain rfl := k9.out (hd 9 (by decide))
          have HW := Lib.hid hW
          clear hW hL hd hi1 hi2
          refine wpOp_step rfl fun K hK => ?_
          go_simp
          rw [HPQ.out.2.2]
          refine hK _ _ ⟨_, _, _, _, _, _, _, _, _, _, _, _, _, rfl, k0, k1, k2, k3, k4, k5, k6, k7, k8, k9, (Lib.hid fun _ => rfl), k11, k12, HW.out⟩
        · -- operation 11
          obtain rfl := k5.out (hd 5 (by decide))
          obtain rfl := k10.out (hd 10 (by decide))
          have HW := Lib.hid hW
          clear hW hL hd hi1 hi2
          refine wpOp_step rfl fun K hK => ?_
          go_simp
          refine hK _ _ ⟨_, _, _, _, _, _, _, _, _, _, _, _, _, rfl, k0, k1, k2, k3, k4, k5, k6, k7, k8, k9, k10, (Lib.hid fun _ => rfl), k12, HW.out⟩
        · -- operation 12
          obtain rfl := k11.out (hd 11 (by decide))
          have HW := Lib.hid hW
          clear hW hL hd hi1 hi2
          refine wpOp_step rfl fun K hK => ?_
          go_simp
          refine hK _ _ ⟨_, _, _, _, _, _, _, _, _, _, _, _, _, rfl, k0, k1, k2, k3, k4, k5, k6, k7, k8, k9, k10, k11, (Lib.hid fun _ => ⟨_, rfl, HW.out.size, At.new _ _ _⟩), HW.out.trans (((Below.refl _ _).alloc (Nat.le_refl _) _).mono HW.out.size)⟩
      clear hW
      clear u
      intro L a' u hI hall
      obtain ⟨v68, v69, v70, v71, v72, v73, v74, v75, v76, v77, v78, v79, v80, rfl, k0, k1, k2, k3, k4, k5, k6, k7, k8, k9, k10, k11, k12, hW⟩ := hI
      obtain ⟨g80, e80, l80, h80⟩ := k12.out (hall 12 (by decide))
      obtain rfl := k0.out (hall 0 (by decide))
      obtain rfl := k1.out (hall 1 (by decide))
      obtain rfl := k2.out (hall 2 (by decide))
      obtain rfl := k3.out (hall 3 (by decide))
      obtain rfl := k4.out (hall 4 (by decide))
      obtain rfl := k5.out (hall 5 (by decide))
      obtain rfl := k6.out (hall 6 (by decide))
      obtain rfl := k7.out (hall 7 (by decide))
      obtain rfl := k8.out (hall 8 (by decide))
      obtain rfl := k9.out (hall 9 (by decide))
      obtain rfl := k10.out (hall 10 (by decide))
      obtain rfl := k11.out (hall 11 (by decide))
      subst e80
      clear k0 k1 k2 k3 k4 k5 k6 k7 k8 k9 k10 k11 k12 hall L
      refine from_tail hTab 13 (by kernel_rfl) ?_
      show wpOps _ _ _ [13, 14] _ _
      clear hTab
      dsimp only
      have HW := Lib.hid (And.intro hW h80)
      clear hW h80 hb1
      refine wpOps_tail 13 _ rfl rfl ?_
      simp only [List.drop_succ_cons, List.drop_zero]
      have hB5 := HI.out.2.2.trans (HW.out.1.mono HI.out.2.2.size)
      have HB5 := Lib.hid (And.intro (HI.out.2.1.by HW.out.1) hB5)
      have hsz5 := hB5.size
      clear hB5
      go_wp2_with (at_builtin; refine append_point rfl (.tmp 68) (.tmp 80) rfl _ w.heap.size g80 _ _ ⟨x + p, y + q⟩ rfl (HI.out.1.by HW.out.1) rfl HW.out.2 (by rw [win_length]; omega) hsz5 ?_; intro v' w5 hown5 hgr5 hbl5 hb5)
      go_roundw
      case rel =>
        refine ⟨k + 1, by omega, by go_num, ?_, ?_, HB5.out.2.trans hb5⟩
        · rw [hsn]; exact hown5
        · exact atP_grown HB5.out.1 (HI.out.1.by HW.out.1) hgr5 (by decide)
      case measure => simp [intOf]; omega
    · obtain rfl : k = N := by omega
      obtain ⟨⟨hw1, hw2⟩, hh1, hh2⟩ := HD.out
      obtain ⟨hx, hy, hA, hb1, hb2, hc, hd⟩ := HN.out
      obtain ⟨A12, c12, rfl, hP12⟩ := hown.form
      have hM := fun u (hP : Pts u A12 (win x y wd k)) => mods_near A12 c12 (win x y wd k) a b c d u hP (by rw [win_length]; omega) (win_near x y wd ht k hx hy (by omega) (by omega) (by omega) (by omega) (by omega)) (by unfold Near; omega) (by unfold Near; omega) (by unfold Near; omega) (by unfold Near; omega) (by omega) (by omega)
      obtain ⟨out, hout⟩ : ∃ out, (win x y wd k).map (modP a b c d) = out := ⟨_, rfl⟩
      rw [hout, win_length] at hM
      rw [win_length]
      have holen : out.length = k := by rw [← hout, List.length_map, win_length]
      have HO := Lib.hid (And.intro hout holen)
      have HM := Lib.hid hM
      have HI := Lib.hid (And.intro hP12 (And.intro hat hbel))
      clear hown hP12 hat hbel hM hw1 hw2 hh1 hh2 hx hy hA hb1 hb2 hc hd hout holen
      obtain ⟨⟨c0', c1', c2', c3'⟩, -⟩ := HI.out.2.1.four
      go_wp2_with fail
      clear c0' c1' c2' c3'
      refine (HM.out _ HI.out.1).mono ?_
      rintro _ w5 ⟨v14, rfl, ho14, hb5⟩
      obtain ⟨A14, c14, rfl, hP14⟩ := ho14.form
      rw [HO.out.2]
      have HJ := Lib.hid (And.intro hP14 (And.intro (HI.out.2.1.by hb5) (HI.out.2.2.trans (hb5.mono HI.out.2.2.size))))
      clear ho14 hP14 hb5 HI HM
      obtain ⟨F, hF⟩ : ∃ F : Nat → Nat, F = fun j => (spotW a b x y wd ht j).toNat := ⟨_, rfl⟩
      have hmk : ∀ u : World, (Instr.makeSlice 49 (.int .i64 (k : Int)) (.int .i64 (k : Int))).run Try.prog u = .ok (.slice (some ⟨u.heap.size, 0, none⟩) k k) (u.alloc (.cells (marks F k 0).toArray 4)) := by
        intro u
        obtain ⟨i0, hi0, hz0, hz1, hz2⟩ := info_parts infoBool
        have h1 := run_make (P := Try.prog) u 49 4 i0 _ Try.underlying49 hi0 hz0 .i64 .i64 (k : Int) (k : Int) (by omega) (Int.le_refl _) (by rw [hz2]; omega) (by omega)
        rw [h1, hz1]
        simp only [Int.toNat_natCast]
        rw [show (Value.bool false).cells = #[Value.bool false] from rfl, made_marks F]
      have HF := Lib.hid hF
      clear hF
      go_wp2
      clear hmk
      go_loopw [101] (fun i wr => ∃ j : Nat, j ≤ k ∧ i = .int .i64 j ∧ At wr w5.heap.size 4 (marks F k j) ∧ Below w5.heap.size w5 wr) (fun i _ => k - (intOf i).toNat)
      case atStart =>
        refine ⟨0, Nat.zero_le _, rfl, ?_, ?_⟩
        · exact At.new _ _ _
        · (repeat first | exact Below.refl _ _ | refine Below.drew ?_ | refine Below.alloc ?_ (by first | exact Nat.le_refl _ | (simp only [size_alloc]; omega)) _)
      case round =>
        obtain ⟨j, hj, rfl, hmet, hbel⟩ := hrel
        by_cases hlt : j < k
        · obtain ⟨g14, o14, rfl, hg14, y0, y1⟩ := (HJ.out.1.by hbel).at_ (i := j) (by rw [HO.out.2]; exact hlt)
          obtain ⟨⟨m, q⟩, hmq⟩ : ∃ p, out[j]'(by rw [HO.out.2]; exact hlt) = p := ⟨_, rfl⟩
          rw [hmq] at y0 y1
          dsimp only at y0 y1
          obtain ⟨sN, f1, f2, f3, f4, f5, f6, f7, f8, f9⟩ : ∃ sN : Nat, sN < k ∧ inB m q a b c d = true ∧ F j = sN ∧ IntKind.i64.wrap (q - b) = q - b ∧ IntKind.i64.wrap ((q - b) * wd) = (q - b) * wd ∧ IntKind.i64.wrap ((q - b) * wd + m) = (q - b) * wd + m ∧ IntKind.i64.wrap ((q - b) * wd + m - a) = (sN : Int) ∧ (marks F k j)[sN]? = some (.bool false) ∧ IntKind.i64.wrap (sN : Int) = sN := by
            obtain ⟨⟨hw1, hw2⟩, hh1, hh2⟩ := HD.out
            obtain ⟨hx, hy, hA, hb1, hb2, hc, hd⟩ := HN.out
            have e : out[j]? = some ⟨modI (x + (j : Int) % wd) a (c - a), modI (y + (j : Int) / wd) b (d - b)⟩ := by
              rw [← HO.out.1]
              simp [win, modP, hlt]
            rw [List.getElem?_eq_getElem (by rw [HO.out.2]; exact hlt), hmq, show c - a = wd by omega, show d - b = ht by omega] at e
            simp only [Option.some.injEq, P.mk.injEq] at e
            have hsp : spotW a b x y wd ht j = (q - b) * wd + m - a := by unfold spotW; rw [← e.1, ← e.2]
            have hr := spotW_range a b x y wd ht j (by omega) (by omega)
            have hFj : F j = (spotW a b x y wd ht j).toNat := by rw [HF.out]
            have hm := modI_in (x + (j : Int) % wd) a wd (by omega)
            have hq := modI_in (y + (j : Int) / wd) b ht (by omega)
            rw [← e.1] at hm
            rw [← e.2] at hq
            have ht0 : 0 ≤ (q - b) * wd := Int.mul_nonneg (by omega) (by omega)
            have ht1 : (q - b) * wd ≤ 40 * 40 := Int.mul_le_mul (by omega) (by omega) (by omega) (by omega)
            rw [hN] at hr
            have hin : inB m q a b c d = true := by simp [inB]; omega
            have hsN : ((F j : Nat) : Int) = (q - b) * wd + m - a := by rw [hFj, Int.toNat_of_nonneg hr.1, hsp]
            have hlt2 : F j < k := by rw [hsp] at hr; omega
            refine ⟨F j, hlt2, hin, rfl, IntWalk.i64_in _ (by omega), IntWalk.i64_in _ (by omega), IntWalk.i64_in _ (by omega), ?_, marks_get F k j hlt2 ?_, IntWalk.i64_in _ (by omega)⟩
            · rw [hsN]
              exact IntWalk.i64_in _ (by omega)
            · intro i hi hcon
              have hri := spotW_range a b x y wd ht i (by omega) (by omega)
              have hFi : F i = (spotW a b x y wd ht i).toNat := by rw [HF.out]
              have hsi : spotW a b x y wd ht i = spotW a b x y wd ht j := by omega
              have := spotW_inj a b x y wd ht i j (by omega) (by omega) (by rw [hN]; omega) (by rw [hN]; omega) hsi
              omega
          have HI := Lib.hid (And.intro hmet hbel)
          have HS := Lib.hid (And.intro f1 (And.intro f2 f3))
          have HA := Lib.hid (And.intro f4 (And.intro f5 (And.intro f6 (And.intro f7 (And.intro f8 f9)))))
          clear hmet hbel f1 f2 f3 f4 f5 f6 f7 f8 f9 hmq
          go_upto_region 19 with fail
          clear y0 y1
          refine from_table tab_modw19 (by kernel_rfl) (by kernel_rfl) (by kernel_rfl) (by kernel_rfl) fun hTab => ?_
          refine from_gen (fun u => At u g11 24 [.int .i64 (a), .int .i64 (b), .int .i64 (c), .int .i64 (d)] ∧ At u wr.heap.size 27 [.int .i64 m, .int .i64 q] ∧ At u w5.heap.size 4 (marks F k j) ∧ Below w5.heap.size w5 u) ?_ ?_
          · refine ⟨?_, ?_, ?_, ?_⟩
            · exact ((HJ.out.2.1.by HI.out.2).alloc _).drew
            · (repeat first | exact At.new' _ _ _ (by first | rfl | (simp only [size_alloc])) | refine At.drew ?_ | refine At.alloc ?_ _)
            · exact (HI.out.1.alloc _).drew
            · exact (HI.out.2.alloc HI.out.2.size _).drew
          intro u hW
          -- operations 0 to 5
          refine from_block' hTab 0 6 (by decide) (by kernel_rfl)
            (fun L a' u => ∃ v105 v106 v107 v108 v109 v110 : Value, a' = ⟨#[Value.slice A n c0, .int .i64 wd, .int .i64 ht, .int .i64 x, .int .i64 y, undef, undef, undef, undef, undef, u10, .pointer (some ⟨g11, 0, none⟩), Value.slice A12 k c12, .int .i64 ↑k, .slice (some ⟨g14, o14, none⟩) k c14, .bool false, .slice (some ⟨w5.heap.size, 0, none⟩) k k, undef, .pointer (some ⟨wr.heap.size, 0, none⟩), u19, .int .i64 x, .int .i64 y, .slice (some ⟨w.heap.size, 0, none⟩) 2 2, .bool true, .bool false, .bool false, .int .i64 wd, .bool false, .bool false, .bool false, .int .i64 wd, .bool false, .bool false, .bool false, .int .i64 ht, .bool false, .bool false, .bool false, .int .i64 ht, .bool false, .bool false, Value.slice A n c0, .agg #[.int .i64 a, .int .i64 b, .int .i64 e1, .int .i64 e2], .pointer (some ⟨g11, 0, none⟩), .int .i64 a, .pointer (some ⟨g11, 1, none⟩), .int .i64 b, .slice (some ⟨g11 + 1, 0, none⟩) 2 2, .bool true, .bool false, .pointer (some ⟨g11, 0, none⟩), .int .i64 a, .int .i64 wd, .int .i64 c, .pointer (some ⟨g11, 1, none⟩), .int .i64 b, .int .i64 ht, .int .i64 d, .pointer (some ⟨g11, 2, none⟩), .pointer (some ⟨g11, 3, none⟩), .slice (some ⟨w4.heap.size, 0, none⟩) 0 0, .int .i64 ↑k, .int .i64 wd, .int .i64 ht, .int .i64 ↑k, .bool false, u66, u67, u68, u69, u70, u71, u72, u73, u74, u75, u76, u77, u78, u79, u80, u81, .tuple #[.slice (some ⟨g14, o14, none⟩) k c14, .bool false], Value.slice A12 k c12, .agg #[.int .i64 a, .int .i64 b, .int .i64 c, .int .i64 d], .tuple #[.slice (some ⟨g14, o14, none⟩) k c14, .bool false], .slice (some ⟨g14, o14, none⟩) k c14, .bool false, .bool false, .bool false, .slice (some ⟨g14, o14, none⟩) k c14, .int .i64 ↑k, Value.slice A12 k c12, .int .i64 ↑k, .bool false, .bool false, Value.slice A12 k c12, .int .i64 ↑k, .slice (some ⟨w5.heap.size, 0, none⟩) k k, .slice (some ⟨g14, o14, none⟩) k c14, .int .i64 ↑k, .int .i64 ↑j, .bool true, .pointer (some ⟨g14, o14 + j * 2, none⟩), .agg #[.int .i64 m, .int .i64 q], v105, v106, v107, v108, v109, v110, u111, u112, u113, u114, u115, u116, u117, u118, u119, u120, u121, u122, u123, u124, u125, u126, u127, u128, u129, u130, u131, u132, u133], []⟩ ∧
              Hid (L 0 = true → v105 = .agg #[.int .i64 a, .int .i64 b, .int .i64 c, .int .i64 d]) ∧ Hid (L 1 = true → N4 u v106 a b c d) ∧ Hid (L 2 = true → v107 = .pointer (some ⟨wr.heap.size, 0, none⟩)) ∧ Hid (L 3 = true → v108 = .int .i64 m) ∧ Hid (L 4 = true → v109 = .pointer (some ⟨wr.heap.size, 1, none⟩)) ∧ Hid (L 5 = true → v110 = .int .i64 q) ∧ (At u g11 24 [.int .i64 (a), .int .i64 (b), .int .i64 (c), .int .i64 (d)] ∧ At u wr.heap.size 27 [.int .i64 m, .int .i64 q] ∧ At u w5.heap.size 4 (marks F k j) ∧ Below w5.heap.size w5 u)) ?_ ?_ ?_
          · exact ⟨_, _, _, _, _, _, rfl, (Lib.hid fun h => by cases h), (Lib.hid fun h => by cases h), (Lib.hid fun h => by cases h), (Lib.hid fun h => by cases h), (Lib.hid fun h => by cases h), (Lib.hid fun h => by cases h), hW⟩
          · clear hW
            intro L a' u i hi1 hi2 hI hL hd
            obtain ⟨v105, v106, v107, v108, v109, v110, rfl, k0, k1, k2, k3, k4, k5, hW⟩ := hI
            obtain rfl | rfl | rfl | rfl | rfl | rfl := (show ∀ i : Nat, 0 ≤ i → i < 6 → (i = 0 ∨ i = 1 ∨ i = 2 ∨ i = 3 ∨ i = 4 ∨ i = 5) by omega) i hi1 hi2
            · -- operation 0
              obtain ⟨c0, c1, c2, c3⟩ := hW.1.four.1
              have HW := Lib.hid hW
              clear hW hL hd hi1 hi2
              refine wpOp_step rfl fun K hK => ?_
              go_simp
              refine hK _ _ ⟨_, _, _, _, _, _, rfl, (Lib.hid fun _ => rfl), k1, k2, k3, k4, k5, HW.out⟩
            · -- operation 1
              obtain rfl := k0.out (hd 0 (by decide))
              have HW := Lib.hid hW
              clear hW hL hd hi1 hi2
              refine wpOp_step rfl fun K hK => ?_
              go_simp
              go_at_call 19
              refine (numbers_n4 _ _ _ _ _).mono ?_
              rintro _ w' ⟨v, rfl, ho, hb⟩
              refine hK _ _ ⟨_, _, _, _, _, _, rfl, k0, (Lib.hid fun _ => ho), k2, k3, k4, k5, ⟨HW.out.1.by hb, HW.out.2.1.by hb, HW.out.2.2.1.by hb, HW.out.2.2.2.trans (hb.mono HW.out.2.2.2.size)⟩⟩
            · -- operation 2
              have HW := Lib.hid hW
              clear hW hL hd hi1 hi2
              refine wpOp_step rfl fun K hK => ?_
              go_simp
              refine hK _ _ ⟨_, _, _, _, _, _, rfl, k0, k1, (Lib.hid fun _ => rfl), k3, k4, k5, HW.out⟩
            · -- operation 3
              obtain rfl := k2.out (hd 2 (by decide))
              obtain ⟨c0, c1⟩ := hW.2.1.two.1
              have HW := Lib.hid hW
              clear hW hL hd hi1 hi2
              refine wpOp_step rfl fun K hK => ?_
              go_simp
              refine hK _ _ ⟨_, _, _, _, _, _, rfl, k0, k1, k2, (Lib.hid fun _ => rfl), k4, k5, HW.out⟩
            · -- operation 4
              have HW := Lib.hid hW
              clear hW hL hd hi1 hi2
              refine wpOp_step rfl fun K hK => ?_
              go_simp
              refine hK _ _ ⟨_, _, _, _, _, _, rfl, k0, k1, k2, k3, (Lib.hid fun _ => rfl), k5, HW.out⟩
            · -- operation 5
              obtain rfl := k4.out (hd 4 (by decide))
              obtain ⟨c0, c1⟩ := hW.2.1.two.1
              have HW := Lib.hid hW
              clear hW hL hd hi1 hi2
              refine wpOp_step rfl fun K hK => ?_
              go_simp
              refine hK _ _ ⟨_, _, _, _, _, _, rfl, k0, k1, k2, k3, k4, (Lib.hid fun _ => rfl), HW.out⟩
          clear hW
          clear u
          intro L a' u hI hall
          obtain ⟨v105, v106, v107, v108, v109, v110, rfl, k0, k1, k2, k3, k4, k5, hW⟩ := hI
          obtain rfl := k0.out (hall 0 (by decide))
          have x1 := k1.out (hall 1 (by decide))
          obtain rfl := k2.out (hall 2 (by decide))
          obtain rfl := k3.out (hall 3 (by decide))
          obtain rfl := k4.out (hall 4 (by decide))
          obtain rfl := k5.out (hall 5 (by decide))
          clear k0 k1 k2 k3 k4 k5 hall L
          -- operation 6 alone
          refine from_one' hTab 6 (by kernel_rfl) ?_
          have HW := Lib.hid hW
          have Hx1 := Lib.hid x1
          clear hW x1
          refine wpOp_step rfl fun K hK => ?_
          go_simp
          go_at_call 22
          refine (has_n4 Hx1.out HS.out.2.1).mono ?_
          rintro _ w' ⟨rfl, hb⟩
          refine hK _ _ ?_
          clear hK K
          refine from_gen (fun u => (At u g11 24 [.int .i64 (a), .int .i64 (b), .int .i64 (c), .int .i64 (d)] ∧ At u wr.heap.size 27 [.int .i64 m, .int .i64 q] ∧ At u w5.heap.size 4 (marks F k j) ∧ Below w5.heap.size w5 u) ∧ (N4 u v106 a b c d)) (⟨⟨HW.out.1.by hb, HW.out.2.1.by hb, HW.out.2.2.1.by hb, HW.out.2.2.2.trans (hb.mono HW.out.2.2.2.size)⟩, (Hx1.out.by hb)⟩) ?_
          clear hb HW Hx1
          intro u hW
          obtain ⟨hW, x1⟩ := hW
          -- operation 7 alone
          refine from_one' hTab 7 (by kernel_rfl) ?_
          have HW := Lib.hid hW
          have Hx1 := Lib.hid x1
          clear hW x1
          refine wpOp_step rfl fun K hK => ?_
          go_simp
          refine hK _ _ ?_
          clear hK K
          have hW := HW.out
          have x1 := Hx1.out
          clear HW Hx1
          refine from_end' hTab 8 (by kernel_rfl) ?_
          clear hTab
          have HW := Lib.hid hW
          clear hW x1
          obtain ⟨⟨c0', c1', c2', c3'⟩, -⟩ := HW.out.1.four
          obtain ⟨⟨d0, d1⟩, -⟩ := HW.out.2.1.two
          have e0 := (HW.out.2.2.1.cell sN).trans HA.out.2.2.2.2.1
          have ef := HW.out.2.2.1.frozen sN
          have f1 := HS.out.1
          obtain ⟨f4, f5, f6, f7, -, f9⟩ := HA.out
          go_wp2
          go_roundw
          case rel =>
            have hms := marks_succ F k j
            rw [HS.out.2.2] at hms
            have hset := HW.out.2.2.1.set_ sN (.bool true)
            rw [hms] at hset
            exact ⟨j + 1, by omega, by go_num, hset, HW.out.2.2.2.setCell (p := ⟨w5.heap.size, sN, none⟩) (Nat.le_refl _) _⟩
          case measure => simp [intOf]; omega
        · obtain rfl : j = k := by omega
          have HI := Lib.hid (And.intro hmet hbel)
          clear hmet hbel
          go_wp2
          go_ret
          exact ⟨rfl, HJ.out.2.2.trans (HI.out.2.mono HJ.out.2.2.size)⟩
end Go.Proofs.Ytojplcchoffapaa
