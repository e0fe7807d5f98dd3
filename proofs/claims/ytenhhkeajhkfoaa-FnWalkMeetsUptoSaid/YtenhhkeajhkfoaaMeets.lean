/- The walk of FnWalkMeets. Conditions: at most 1048576 rows. -/
import Derived.Test.YtenhhkeajhkfoaaBoth
import Derived.Test.YtenhhkeajhkfoaaJoin
import Derived.Test.YtenhhkeajhkfoaaAppend
import Derived.Test.YtenhhkeajhkfoaaTwo
import Derived.Test.YtenhhkeajhkfoaaSpots
import Derived.Test.YtenhhkeajhkfoaaBlocks
import Derived.Test.YtenhhkeajhkfoaaTail
import Derived.Deep.DeepCutAuto
import Derived.Outline
namespace Go.Proofs.Ytenhhkeajhkfoaa
open Go.RowKit

/-- a script of one kind -/
def kindS (op : Int) (l : List R) : List S := l.map fun r => ⟨op, 0, 0, 0, r⟩
theorem kindS_length (op : Int) (l : List R) : (kindS op l).length = l.length := by simp [kindS]
theorem kindS_snoc (op : Int) (l : List R) (k : Nat) (h : k < l.length) : kindS op (l.take (k + 1)) = kindS op (l.take k) ++ [⟨op, 0, 0, 0, l[k]⟩] := take_map_snoc _ l k h
theorem run_kind (op : Int) (f : R → R → R) (hf : ∀ r q : R, stepR op 0 0 0 q r = f r q) (l : List R) : ∀ r, runS r (kindS op l) = l.foldl f r := by
  induction l with
  | nil => intro r; rfl
  | cons q l ih =>
    intro r
    simp only [kindS, runS, List.map_cons, List.foldl_cons, S.on, hf] at ih ⊢
    exact ih _
/-- the plain law of FnWalkMeets -/
theorem meets_law (op : Int) (f : R → R → R) (hf : ∀ r q : R, stepR op 0 0 0 q r = f r q) (r : R) (l : List R) (i : Nat) : runS r ((kindS op l).take (i + 1)) = acc f ((r :: l).take (i + 1 + 1)) := by
  have e : (kindS op l).take (i + 1) = kindS op (l.take (i + 1)) := by simp [kindS, List.map_take]
  rw [e, run_kind op f hf, List.take_succ_cons]
  rfl
theorem own_one (w : World) (a b c d : Int) : Own (w.alloc (.cells #[.int .i64 a, .int .i64 b, .int .i64 c, .int .i64 d] 25)) w.heap.size (.slice (some ⟨w.heap.size, 0, none⟩) 1 1) [⟨a, b, c, d⟩] :=
  ⟨rfl, .inr ⟨_, 1, #[.int .i64 a, .int .i64 b, .int .i64 c, .int .i64 d], rfl, Nat.le_refl _, heap_alloc_new _ _, Nat.le_refl _, by simp [maxLen], rfl, rfl⟩⟩

theorem all_form {w : World} {base M : Nat} {v : Value} {r : R} {l : List R} (h : Own w base v ([r] ++ l)) (hM : (r :: l).length = M) : ∃ A c, v = .slice A M c ∧ Rects w A (r :: l) := by
  obtain ⟨A, c, e, hR⟩ := h.form
  subst hM
  exact ⟨A, c, e, hR⟩

def tab_meets6 : List (List Nat) := [[], [], [1], [1, 2], [0, 1, 2, 3], [], [], [6], [6, 7], [0, 1, 2, 3, 4, 5, 6, 7, 8], [0, 1, 2, 3, 4, 5, 6, 7, 8, 9], [0, 1, 2, 3, 4, 5, 6, 7, 8, 9, 10]]
def tab_meets11 : List (List Nat) := [[], [0], [], [2], [0, 1, 2, 3], [0, 1, 2, 3, 4], [0, 1, 2, 3, 4, 5], [0, 1, 2, 3, 4, 5, 6], [0, 1, 2, 3, 4, 5], [0, 1, 2, 3, 4, 5, 8], [0, 1, 2, 3, 4, 5, 6, 7, 8, 9], [0, 1, 2, 3, 4, 5, 6, 7, 8, 9, 10], [0, 1, 2, 3, 4, 5, 6, 7, 8, 9, 10, 11], [0, 1, 2, 3, 4, 5, 6, 7, 8, 9, 10, 11, 12], [0, 1, 2, 3, 4, 5, 6, 7, 8, 9, 10, 11, 12, 13], [0, 1, 2, 3, 4, 5, 6, 7, 8, 9, 10, 11, 12], [0, 1, 2, 3, 4, 5, 6, 7, 8, 9, 10, 11, 12, 15], [0, 1, 2, 3, 4, 5, 6, 7, 8, 9, 10, 11, 12, 13, 14, 15, 16], [0, 1, 2, 3, 4, 5, 6, 7, 8, 9, 10, 11, 12, 13, 14, 15, 16, 17], [0, 1, 2, 3, 4, 5, 6, 7, 8, 9, 10, 11, 12, 13, 14, 15, 16, 17, 18], [0, 1, 2, 3, 4, 5, 6, 7, 8, 9, 10, 11, 12, 13, 14, 15, 16, 17, 18, 19], [0, 1, 2, 3, 4, 5, 6, 7, 8, 9, 10, 11, 12, 13, 14, 15, 16, 17, 18, 19, 20], [0, 1, 2, 3, 4, 5, 6, 7, 8, 9, 10, 11, 12, 13, 14, 15, 16, 17, 18, 19], [0, 1, 2, 3, 4, 5, 6, 7, 8, 9, 10, 11, 12, 13, 14, 15, 16, 17, 18, 19, 22], [0, 1, 2, 3, 4, 5, 6, 7, 8, 9, 10, 11, 12, 13, 14, 15, 16, 17, 18, 19, 20, 21, 22, 23], [0, 1, 2, 3, 4, 5, 6, 7, 8, 9, 10, 11, 12, 13, 14, 15, 16, 17, 18, 19, 20, 21, 22, 23, 24], [0, 1, 2, 3, 4, 5, 6, 7, 8, 9, 10, 11, 12, 13, 14, 15, 16, 17, 18, 19, 20, 21, 22, 23, 24, 25], [0, 1, 2, 3, 4, 5, 6, 7, 8, 9, 10, 11, 12, 13, 14, 15, 16, 17, 18, 19, 20, 21, 22, 23, 24, 25, 26], [0, 1, 2, 3, 4, 5, 6, 7, 8, 9, 10, 11, 12, 13, 14, 15, 16, 17, 18, 19, 20, 21, 22, 23, 24, 25, 26, 27], [0, 1, 2, 3, 4, 5, 6, 7, 8, 9, 10, 11, 12, 13, 14, 15, 16, 17, 18, 19, 20, 21, 22, 23, 24, 25, 26, 27, 28], [0, 1, 2, 3, 4, 5, 6, 7, 8, 9, 10, 11, 12, 13, 14, 15, 16, 17, 18, 19, 20, 21, 22, 23, 24, 25, 26], [0, 1, 2, 3, 4, 5, 6, 7, 8, 9, 10, 11, 12, 13, 14, 15, 16, 17, 18, 19, 20, 21, 22, 23, 24, 25, 26, 27, 28, 29, 30], [0, 1, 2, 3, 4, 5, 6, 7, 8, 9, 10, 11, 12, 13, 14, 15, 16, 17, 18, 19, 20, 21, 22, 23, 24, 25, 26, 27, 28, 29, 30, 31], [0, 1, 2, 3, 4, 5, 6, 7, 8, 9, 10, 11, 12, 13, 14, 15, 16, 17, 18, 19, 20, 21, 22, 23, 24, 25, 26, 27, 28, 29, 30, 31, 32], [0, 1, 2, 3, 4, 5, 6, 7, 8, 9, 10, 11, 12, 13, 14, 15, 16, 17, 18, 19, 20, 21, 22, 23, 24, 25, 26, 27, 28, 29, 30, 31, 32, 33], [0, 1, 2, 3, 4, 5, 6, 7, 8, 9, 10, 11, 12, 13, 14, 15, 16, 17, 18, 19, 20, 21, 22, 23, 24, 25, 26, 27, 28, 29, 30, 31, 32, 33, 34], [0, 1, 2, 3, 4, 5, 6, 7, 8, 9, 10, 11, 12, 13, 14, 15, 16, 17, 18, 19, 20, 21, 22, 23, 24, 25, 26, 27, 28, 29, 30, 31, 32, 33, 34, 35], [0, 1, 2, 3, 4, 5, 6, 7, 8, 9, 10, 11, 12, 13, 14, 15, 16, 17, 18, 19, 20, 21, 22, 23, 24, 25, 26, 27, 28, 29, 30, 31, 32, 33], [0, 1, 2, 3, 4, 5, 6, 7, 8, 9, 10, 11, 12, 13, 14, 15, 16, 17, 18, 19, 20, 21, 22, 23, 24, 25, 26, 27, 28, 29, 30, 31, 32, 33, 34, 35, 36, 37], [0, 1, 2, 3, 4, 5, 6, 7, 8, 9, 10, 11, 12, 13, 14, 15, 16, 17, 18, 19, 20, 21, 22, 23, 24, 25, 26, 27, 28, 29, 30, 31, 32, 33, 34, 35, 36, 37, 38]]
def tab_meets16 : List (List Nat) := [[], [], [0, 1], [0, 1, 2], [], [], [5], [4, 5, 6], [4, 5, 6, 7], [0, 1, 2, 3, 4, 5, 6, 7, 8], [0, 1, 2, 3, 4, 5, 6, 7, 8, 9], [0, 1, 2, 3, 4, 5, 6, 7, 8, 9, 10], [0, 1, 2, 3, 4, 5, 6, 7, 8, 9, 10], [0, 1, 2, 3, 4, 5, 6, 7, 8, 9, 10, 11, 12], [0, 1, 2, 3, 4, 5, 6, 7, 8, 9, 10, 11, 12, 13], [0, 1, 2, 3, 4, 5, 6, 7, 8, 9, 10], [0, 1, 2, 3, 4, 5, 6, 7, 8, 9, 10], [0, 1, 2, 3, 4, 5, 6, 7, 8, 9, 10, 16], [0, 1, 2, 3, 4, 5, 6, 7, 8, 9, 10, 15, 16, 17], [0, 1, 2, 3, 4, 5, 6, 7, 8, 9, 10, 15, 16, 17, 18], [0, 1, 2, 3, 4, 5, 6, 7, 8, 9, 10, 11, 12, 13, 14, 15, 16, 17, 18, 19], [0, 1, 2, 3, 4, 5, 6, 7, 8, 9, 10, 11, 12, 13, 14, 15, 16, 17, 18, 19, 20]]
set_option maxRecDepth 10000 in
set_option maxHeartbeats 8000000 in
theorem meets_walk (A A1 : Option Addr) (n c n1 c1 : Nat) (z : List Int) (z1 : List (List Int)) (w : World)
    (h : Ints w A n z) (h1 : RowsAt w A1 n1 z1) (hn : n1 ≤ 1048576) :
    Calls Try.prog 9 #[.slice A n c, .slice A1 n1 c1] w fun e w' => e = .returned (.bool true) ∧ Below w.heap.size w w' := by
  have L := fun u hu => lrect_any A n c z u hu
  generalize rectOf z = sr at L
  obtain ⟨a, b, x, d⟩ := sr
  have R1 := fun u hu => rects_any A1 n1 c1 z1 u hu hn
  obtain ⟨rs, hrs⟩ : ∃ rs, z1.map rectOf = rs := ⟨_, rfl⟩
  have hlen : rs.length ≤ 1048576 := by rw [← hrs, List.length_map, h1.1]; exact hn
  rw [hrs] at R1
  have HL := Lib.hid L
  have HR := Lib.hid R1
  have H := Lib.hid (And.intro h h1)
  clear L R1 h h1 hrs
  go_enter Try.func9, Try.ntmps9
  go_wp2_with fail
  refine (HL.out _ H.out.1).mono ?_
  rintro _ w1 ⟨rfl, hb1⟩
  have HB1 := Lib.hid hb1
  clear hb1 HL
  go_wp2_with fail
  refine (HR.out _ (H.out.2.by HB1.out)).mono ?_
  rintro _ w2 ⟨v6, rfl, ho6, hb2⟩
  obtain ⟨A6, c6, rfl, hR6, hc6⟩ := ho6.form'
  have HB2 := Lib.hid (HB1.out.trans (hb2.mono HB1.out.size))
  have HR6 := Lib.hid hR6
  clear hb2 ho6 hR6 HB1 HR H
  go_upto_region 2 with fail
  obtain ⟨w3, hw3⟩ : ∃ w3, w3 = w2.alloc (.cells #[.int .i64 a, .int .i64 b, .int .i64 x, .int .i64 d] 25) := ⟨_, rfl⟩
  rw [← hw3]
  have HB3 := Lib.hid (show Below w.heap.size w w3 by rw [hw3]; exact HB2.out.alloc HB2.out.size _)
  have H5 := Lib.hid (show At w3 w2.heap.size 25 [.int .i64 a, .int .i64 b, .int .i64 x, .int .i64 d] by rw [hw3]; exact At.new _ _ _)
  have HR3 := Lib.hid (show Rects w3 A6 rs by rw [hw3]; exact HR6.out.alloc _)
  obtain ⟨g5, hg5⟩ : ∃ g5, g5 = w2.heap.size := ⟨_, rfl⟩
  rw [← hg5] at H5 ⊢
  clear hw3 HB2 HR6 hg5
  go_wp2
  go_loopw [7, 8, 25] (fun x y i wr => ∃ k : Nat, k ≤ rs.length ∧ i = .int .i64 k ∧ TwoS wr w3.heap.size x y (kindS 4 (rs.take k)) (kindS 5 (rs.take k)) ∧ Below w3.heap.size w3 wr) (fun _ _ i _ => rs.length - (intOf i).toNat)
  case atStart =>
    refine ⟨0, Nat.zero_le _, rfl, ⟨(ownS_empty w3).alloc _, ?_, ?_⟩, two_new _ _ _⟩
    · have h := (ownS_empty (w3.alloc (.cells #[] 31))).mono (base' := w3.heap.size) (by simp)
      rw [size_alloc] at h
      exact h
    · intro k e1 e2
      simp [Value.ownBlock] at e1 e2
      omega
  case round =>
    obtain ⟨k, hk, rfl, htwo, hbel⟩ := hrel
    by_cases hlt : k < rs.length
    · obtain ⟨g6, o6, rfl, hg6, y0, y1, y2, y3⟩ := (HR3.out.by hbel).at_ hlt
      have s4 := kindS_snoc 4 rs k hlt
      have s5 := kindS_snoc 5 rs k hlt
      have l4 : (kindS 4 (rs.take k)).length ≤ 1048576 := by rw [kindS_length, List.length_take]; omega
      have l5 : (kindS 5 (rs.take k)).length ≤ 1048576 := by rw [kindS_length, List.length_take]; omega
      generalize rs[k] = r at y0 y1 y2 y3 s4 s5
      obtain ⟨e, f, g', h'⟩ := r
      dsimp only at y0 y1 y2 y3
      generalize kindS 4 (rs.take k) = lm at s4 l4 htwo
      generalize kindS 5 (rs.take k) = lj at s5 l5 htwo
      have HM := Lib.hid (And.intro htwo hbel)
      have HNE := Lib.hid (And.intro (fun g (hg : wr.heap.size ≤ g) => ownS_new htwo.1 hg) (fun g (hg : wr.heap.size ≤ g) => ownS_new htwo.2.1 hg))
      have HLL := Lib.hid (And.intro l4 l5)
      have HSN := Lib.hid (And.intro s4 s5)
      clear htwo hbel l4 l5 s4 s5
      go_wp2_with fail
      clear y0 y1 y2 y3
      refine from_table tab_meets6 (by kernel_rfl) (by kernel_rfl) (by kernel_rfl) (by kernel_rfl) fun hTab => ?_
      refine from_gen (fun u => TwoS u w3.heap.size u7 u8 lm lj ∧ At u wr.heap.size 25 [.int .i64 e, .int .i64 f, .int .i64 g', .int .i64 h'] ∧ Below w3.heap.size w3 u) ?_ ?_
      · refine ⟨TwoS.drew (TwoS.by HM.out.1 ((Below.refl _ _).alloc (Nat.le_refl _) _)), ?_, ?_⟩
        · (repeat first | exact At.new' _ _ _ (by first | rfl | (simp only [size_alloc])) | refine At.drew ?_ | refine At.alloc ?_ _)
        · exact (HM.out.2.alloc HM.out.2.size _).drew
      intro u hW
      -- operations 0 to 8
      refine from_block' hTab 0 9 (by decide) (by kernel_rfl)
        (fun L a' u => ∃ v29 v30 v31 v32 v33 v34 v35 v36 v37 : Value, a' = ⟨#[Value.slice A n c, Value.slice A1 n1 c1, undef, undef, .bool false, .pointer (some ⟨g5, 0, none⟩), .slice (some ⟨g6, o6, none⟩) rs.length c6, u7, u8, undef, .pointer (some ⟨wr.heap.size, 0, none⟩), undef, undef, undef, undef, undef, undef, Value.slice A n c, .agg #[.int .i64 a, .int .i64 b, .int .i64 x, .int .i64 d], Value.slice A1 n1 c1, .slice (some ⟨g6, o6, none⟩) rs.length c6, .slice (some ⟨w3.heap.size, 0, none⟩) 0 0, .slice (some ⟨w3.heap.size + 1, 0, none⟩) 0 0, .slice (some ⟨g6, o6, none⟩) rs.length c6, .int .i64 ↑rs.length, .int .i64 ↑k, .bool true, .pointer (some ⟨g6, o6 + k * 4, none⟩), .agg #[.int .i64 e, .int .i64 f, .int .i64 g', .int .i64 h'], v29, v30, v31, v32, v33, v34, v35, v36, v37, u38, u39, undef, undef, undef, undef, undef, undef, undef, undef, undef, undef, undef, undef, undef, undef, undef, undef, undef, undef, undef, undef, undef, undef, undef, undef, undef, undef, undef, undef, undef, undef, undef, undef, undef, undef, undef, undef, undef, undef, undef, undef, undef, undef, undef, undef, undef, undef, undef, undef, undef, undef, undef, undef, undef, undef, undef, undef, undef, undef, undef, undef, undef, undef, undef, undef, undef, undef, undef, undef, undef, undef, undef, undef, undef, undef, undef, undef, undef, undef, undef, undef, undef, undef], []⟩ ∧
          Hid (L 0 = true → v29 = u7) ∧ Hid (L 1 = true → v30 = .agg #[.int .i64 e, .int .i64 f, .int .i64 g', .int .i64 h']) ∧ Hid (L 2 = true → v31 = .agg #[.int .i64 4, .int .i64 0, .int .i64 0, .int .i64 0, .int .i64 e, .int .i64 f, .int .i64 g', .int .i64 h']) ∧ Hid (L 3 = true → ∃ g32, v32 = .slice (some ⟨g32, 0, none⟩) 1 1 ∧ (wr.heap.size + 1) ≤ g32 ∧ At u g32 31 [.int .i64 4, .int .i64 0, .int .i64 0, .int .i64 0, .int .i64 e, .int .i64 f, .int .i64 g', .int .i64 h']) ∧ Hid (L 5 = true → v34 = u8) ∧ Hid (L 6 = true → v35 = .agg #[.int .i64 e, .int .i64 f, .int .i64 g', .int .i64 h']) ∧ Hid (L 7 = true → v36 = .agg #[.int .i64 5, .int .i64 0, .int .i64 0, .int .i64 0, .int .i64 e, .int .i64 f, .int .i64 g', .int .i64 h']) ∧ Hid (L 8 = true → ∃ g37, v37 = .slice (some ⟨g37, 0, none⟩) 1 1 ∧ (wr.heap.size + 1) ≤ g37 ∧ At u g37 31 [.int .i64 5, .int .i64 0, .int .i64 0, .int .i64 0, .int .i64 e, .int .i64 f, .int .i64 g', .int .i64 h']) ∧ (TwoS u w3.heap.size (bif L 4 then v33 else u7) u8 (bif L 4 then lm ++ [⟨4, 0, 0, 0, ⟨e, f, g', h'⟩⟩] else lm) lj ∧ At u wr.heap.size 25 [.int .i64 e, .int .i64 f, .int .i64 g', .int .i64 h'] ∧ Below w3.heap.size w3 u)) ?_ ?_ ?_
      · exact ⟨_, _, _, _, _, _, _, _, _, rfl, (Lib.hid fun h => by cases h), (Lib.hid fun h => by cases h), (Lib.hid fun h => by cases h), (Lib.hid fun h => by cases h), (Lib.hid fun h => by cases h), (Lib.hid fun h => by cases h), (Lib.hid fun h => by cases h), (Lib.hid fun h => by cases h), hW⟩
      · clear hW
        intro L a' u i hi1 hi2 hI hL hd
        obtain ⟨v29, v30, v31, v32, v33, v34, v35, v36, v37, rfl, k0, k1, k2, k3, k5, k6, k7, k8, hW⟩ := hI
        obtain rfl | rfl | rfl | rfl | rfl | rfl | rfl | rfl | rfl := (show ∀ i : Nat, 0 ≤ i → i < 9 → (i = 0 ∨ i = 1 ∨ i = 2 ∨ i = 3 ∨ i = 4 ∨ i = 5 ∨ i = 6 ∨ i = 7 ∨ i = 8) by omega) i hi1 hi2
        · -- operation 0
          have HW := Lib.hid hW
          clear hW hL hd hi1 hi2
          refine wpOp_step rfl fun K hK => ?_
          go_simp
          refine hK _ _ ⟨_, _, _, _, _, _, _, _, _, rfl, (Lib.hid fun _ => rfl), k1, k2, k3, k5, k6, k7, k8, HW.out⟩
        · -- operation 1
          obtain ⟨c0, c1, c2, c3⟩ := hW.2.1.four.1
          have HW := Lib.hid hW
          clear hW hL hd hi1 hi2
          refine wpOp_step rfl fun K hK => ?_
          go_simp
          refine hK _ _ ⟨_, _, _, _, _, _, _, _, _, rfl, k0, (Lib.hid fun _ => rfl), k2, k3, k5, k6, k7, k8, HW.out⟩
        · -- operation 2
          obtain rfl := k1.out (hd 1 (by decide))
          have HW := Lib.hid hW
          clear hW hL hd hi1 hi2
          refine wpOp_step rfl fun K hK => ?_
          go_simp
          refine hK _ _ ⟨_, _, _, _, _, _, _, _, _, rfl, k0, k1, (Lib.hid fun _ => rfl), k3, k5, k6, k7, k8, HW.out⟩
        · -- operation 3
          obtain rfl := k2.out (hd 2 (by decide))
          have HW := Lib.hid hW
          clear hW hL hd hi1 hi2
          refine wpOp_step rfl fun K hK => ?_
          go_simp
          refine hK _ _ ⟨_, _, _, _, _, _, _, _, _, rfl, k0, k1, k2, (Lib.hid fun _ => ⟨_, rfl, (by have := HW.out.2.1.lt; omega), At.new _ _ _⟩), k5, k6, k7, (Lib.hid fun hl => ?_), ⟨HW.out.1.by ((Below.refl _ _).alloc (Nat.le_refl _) _), HW.out.2.1.by ((Below.refl _ _).alloc (Nat.le_refl _) _), HW.out.2.2.trans (((Below.refl _ _).alloc (Nat.le_refl _) _).mono HW.out.2.2.size)⟩⟩
          · obtain ⟨gg, eg, lg, hg⟩ := k8.out hl
            exact ⟨gg, eg, lg, hg.by ((Below.refl _ _).alloc (Nat.le_refl _) _)⟩
        · -- operation 4
          obtain rfl := k0.out (hd 0 (by decide))
          obtain ⟨gg, rfl, lg, hg⟩ := k3.out (hd 3 (by decide))
          rw [hL] at hW
          dsimp only [cond_false] at hW
          refine op_append_step rfl rfl (.tmp 29) (.tmp 32) rfl u w3.heap.size gg _ _ ⟨4, 0, 0, 0, ⟨e, f, g', h'⟩⟩ rfl hW.1.1 rfl hg (by have := HLL.out.1; omega) hW.2.2.size ?_
          intro v' w' hown' hgr hbl hb
          refine ⟨_, _, _, _, _, _, _, _, _, rfl, k0, k1, k2, (Lib.hid fun _ => ⟨gg, rfl, lg, hg.grown hgr (HNE.out.1 gg (by omega))⟩), k5, k6, k7, (Lib.hid fun hl => by obtain ⟨g8, e8, l8, h8⟩ := k8.out hl; exact ⟨g8, e8, l8, h8.grown hgr (HNE.out.1 g8 (by omega))⟩), ⟨hown', OwnS.grown hgr hW.1.2.1 hW.1.2.2.symm, (apart_grown hW.1.2.1 hW.1.2.2.symm hbl).symm⟩, hW.2.1.grown hgr (HNE.out.1 _ (Nat.le_refl _)), hW.2.2.trans hb⟩
        · -- operation 5
          have HW := Lib.hid hW
          clear hW hL hd hi1 hi2
          refine wpOp_step rfl fun K hK => ?_
          go_simp
          refine hK _ _ ⟨_, _, _, _, _, _, _, _, _, rfl, k0, k1, k2, k3, (Lib.hid fun _ => rfl), k6, k7, k8, HW.out⟩
        · -- operation 6
          obtain ⟨c0, c1, c2, c3⟩ := hW.2.1.four.1
          have HW := Lib.hid hW
          clear hW hL hd hi1 hi2
          refine wpOp_step rfl fun K hK => ?_
          go_simp
          refine hK _ _ ⟨_, _, _, _, _, _, _, _, _, rfl, k0, k1, k2, k3, k5, (Lib.hid fun _ => rfl), k7, k8, HW.out⟩
        · -- operation 7
          obtain rfl := k6.out (hd 6 (by decide))
          have HW := Lib.hid hW
          clear hW hL hd hi1 hi2
          refine wpOp_step rfl fun K hK => ?_
          go_simp
          refine hK _ _ ⟨_, _, _, _, _, _, _, _, _, rfl, k0, k1, k2, k3, k5, k6, (Lib.hid fun _ => rfl), k8, HW.out⟩
        · -- operation 8
          obtain rfl := k7.out (hd 7 (by decide))
          have HW := Lib.hid hW
          clear hW hL hd hi1 hi2
          refine wpOp_step rfl fun K hK => ?_
          go_simp
          refine hK _ _ ⟨_, _, _, _, _, _, _, _, _, rfl, k0, k1, k2, (Lib.hid fun hl => ?_), k5, k6, k7, (Lib.hid fun _ => ⟨_, rfl, (by have := HW.out.2.1.lt; omega), At.new _ _ _⟩), ⟨HW.out.1.by ((Below.refl _ _).alloc (Nat.le_refl _) _), HW.out.2.1.by ((Below.refl _ _).alloc (Nat.le_refl _) _), HW.out.2.2.trans (((Below.refl _ _).alloc (Nat.le_refl _) _).mono HW.out.2.2.size)⟩⟩
          · obtain ⟨gg, eg, lg, hg⟩ := k3.out hl
            exact ⟨gg, eg, lg, hg.by ((Below.refl _ _).alloc (Nat.le_refl _) _)⟩
      clear hW
      clear u
      intro L a' u hI hall
      obtain ⟨v29, v30, v31, v32, v33, v34, v35, v36, v37, rfl, k0, k1, k2, k3, k5, k6, k7, k8, hW⟩ := hI
      obtain ⟨g32, e32, l32, h32⟩ := k3.out (hall 3 (by decide))
      obtain ⟨g37, e37, l37, h37⟩ := k8.out (hall 8 (by decide))
      obtain rfl := k0.out (hall 0 (by decide))
      obtain rfl := k1.out (hall 1 (by decide))
      obtain rfl := k2.out (hall 2 (by decide))
      obtain rfl := k5.out (hall 5 (by decide))
      obtain rfl := k6.out (hall 6 (by decide))
      obtain rfl := k7.out (hall 7 (by decide))
      subst e32
      subst e37
      rw [show L 4 = true from (hall 4 (by decide))] at hW
      dsimp only [cond_true] at hW
      clear k0 k1 k2 k3 k5 k6 k7 k8 hall L
      refine from_tail hTab 9 (by kernel_rfl) ?_
      show wpOps _ _ _ [9, 10, 11] _ _
      clear hTab
      dsimp only
      have HW := Lib.hid hW
      have H37 := Lib.hid h37
      clear hW h32 h37
      refine wpOps_tail 9 _ rfl rfl ?_
      simp only [List.drop_succ_cons, List.drop_zero]
      go_wp2_with (at_builtin; refine append_step_gr rfl (.tmp 34) (.tmp 37) rfl _ w3.heap.size g37 _ _ ⟨5, 0, 0, 0, ⟨e, f, g', h'⟩⟩ rfl HW.out.1.2.1 rfl H37.out (by have := HLL.out.2; omega) HW.out.2.2.size ?_; intro v' w4 hown4 hgr hbl hb4)
      go_roundw
      case rel =>
        refine ⟨k + 1, by omega, by go_num, ?_, HW.out.2.2.trans hb4⟩
        rw [HSN.out.1, HSN.out.2]
        exact ⟨HW.out.1.1.grown hgr HW.out.1.2.2, hown4, apart_grown HW.out.1.1 HW.out.1.2.2 hbl⟩
      case measure => simp [intOf]; omega
    · obtain rfl : k = rs.length := by omega
      rw [List.take_length] at htwo
      obtain ⟨A7, c7, rfl, hS7⟩ := htwo.1.form
      obtain ⟨A8, c8, rfl, hS8⟩ := htwo.2.1.form
      rw [kindS_length, kindS_length]
      obtain ⟨M, hM⟩ : ∃ M, ((⟨a, b, x, d⟩ : R) :: rs).length = M := ⟨_, rfl⟩
      have hM1 : rs.length + 1 = M := by rw [← hM]; simp
      have W1' := fun u hu => walk_any a b x d A7 c7 (kindS 4 rs) u hu (by rw [kindS_length]; omega)
      have W2' := fun u hu => walk_any a b x d A8 c8 (kindS 5 rs) u hu (by rw [kindS_length]; omega)
      have M1' := fun A c u hu => meet_any A c ((⟨a, b, x, d⟩ : R) :: rs) u hu (by omega)
      have J1' := fun A c u hu => join_any A c ((⟨a, b, x, d⟩ : R) :: rs) u hu (by omega)
      rw [kindS_length] at W1' W2'
      rw [hM] at M1' J1'
      have HC := Lib.hid (And.intro W1' (And.intro W2' (And.intro M1' J1')))
      have HS7 := Lib.hid (And.intro hS7 hS8)
      have HB := Lib.hid hbel
      have h5 := H5.out.by hbel
      obtain ⟨⟨y0, y1, y2, y3⟩, -⟩ := h5.four
      have hg5 := h5.lt
      have HH5 := Lib.hid h5
      clear htwo hbel hS7 hS8 W1' W2' M1' J1' h5
      go_upto_region 9 with (at_builtin; refine append_rects rfl (.tmp 41) (.tmp 42) rfl _ wr.heap.size _ [⟨a, b, x, d⟩] rs A6 c6 rfl (own_one wr a b x d) rfl ((HR3.out.by HB.out).alloc _) hc6 (by simp; omega) (by simp) ?_; intro v11 w4 ho4 hb4 _ _; obtain ⟨A11, c11, rfl, hR11⟩ := all_form ho4 hM)
      have HR11 := Lib.hid hR11
      have HB4 := Lib.hid (((Below.refl wr.heap.size wr).alloc (Nat.le_refl _) (.cells #[.int .i64 a, .int .i64 b, .int .i64 x, .int .i64 d] 25)).trans hb4)
      clear ho4 hb4 hR11 y0 y1 y2 y3
      obtain ⟨⟨y0, y1, y2, y3⟩, -⟩ := (HH5.out.by HB4.out).four
      go_wp2_with fail
      clear y0 y1 y2 y3
      refine (HC.out.1 _ (HS7.out.1.by HB4.out)).mono ?_
      rintro _ w5 ⟨v12, rfl, ho12, hb5⟩
      obtain ⟨A12, c12, rfl, hR12⟩ := ho12.form
      rw [runsS_length]
      have HR12 := Lib.hid hR12
      have HB5 := Lib.hid (HB4.out.trans (hb5.mono HB4.out.size))
      have HR115 := Lib.hid (HR11.out.by hb5)
      clear ho12 hb5 hR12
      go_wp2_with fail
      refine (HC.out.2.2.1 _ _ _ HR115.out).mono ?_
      rintro _ w6 ⟨v13, rfl, ho13, hb6⟩
      obtain ⟨A13, c13, rfl, hR13⟩ := ho13.form
      rw [accs_length]
      have HR13 := Lib.hid (And.intro hR13 (HR12.out.by hb6))
      have HB6 := Lib.hid (HB5.out.trans (hb6.mono HB5.out.size))
      have HR116 := Lib.hid (HR115.out.by hb6)
      clear ho13 hb6 hR13 HR12 HB5 HR115
      obtain ⟨⟨y0, y1, y2, y3⟩, -⟩ := (HH5.out.by HB6.out).four
      go_wp2_with fail
      clear y0 y1 y2 y3
      refine (HC.out.2.1 _ (HS7.out.2.by HB6.out)).mono ?_
      rintro _ w7 ⟨v14, rfl, ho14, hb7⟩
      obtain ⟨A14, c14, rfl, hR14⟩ := ho14.form
      rw [runsS_length]
      have HR14 := Lib.hid (And.intro hR14 (And.intro (HR13.out.1.by hb7) (HR13.out.2.by hb7)))
      have HB7 := Lib.hid (HB6.out.trans (hb7.mono HB6.out.size))
      have HR117 := Lib.hid (HR116.out.by hb7)
      clear ho14 hb7 hR14 HR13 HB6 HR116
      go_wp2_with fail
      refine (HC.out.2.2.2 _ _ _ HR117.out).mono ?_
      rintro _ w8 ⟨v15, rfl, ho15, hb8⟩
      obtain ⟨A15, c15, rfl, hR15⟩ := ho15.form
      rw [accs_length]
      have HR := Lib.hid (And.intro (HR14.out.2.2.by hb8) (And.intro (HR14.out.2.1.by hb8) (And.intro (HR14.out.1.by hb8) hR15)))
      have HB8 := Lib.hid (HB7.out.trans (hb8.mono HB7.out.size))
      clear ho15 hb8 hR15 HR14 HB7 HR117 HC HS7
      obtain ⟨g13, o13, rfl, hg13⟩ := HR.out.2.1.addr (by rw [accs_length]; omega)
      obtain ⟨g15, o15, rfl, hg15⟩ := HR.out.2.2.2.addr (by rw [accs_length]; omega)
      have e13 := accs_get inter ((⟨a, b, x, d⟩ : R) :: rs) M 0 (by omega)
      have e15 := accs_get union ((⟨a, b, x, d⟩ : R) :: rs) M 0 (by omega)
      have f13 := HR.out.2.1.four (i := 0) (by rw [accs_length]; omega) e13 hg13
      have f15 := HR.out.2.2.2.four (i := 0) (by rw [accs_length]; omega) e15 hg15
      simp only [Nat.zero_mul, Nat.add_zero] at f13 f15
      have HF := Lib.hid (And.intro f13 (And.intro f15 (HH5.out.by HB8.out)))
      clear e13 e15 f13 f15 hg13 hg15 hM
      have hMpos : 0 < M := by omega
      go_wp2_with fail
      refine from_table tab_meets11 (by kernel_rfl) (by kernel_rfl) (by kernel_rfl) (by kernel_rfl) fun hTab => ?_
      refine from_gen (fun u => Below w8.heap.size w8 u) ?_ ?_
      · exact (Below.refl _ _).drew
      intro u hW
      -- operations 0 to 3
      refine from_block' hTab 0 4 (by decide) (by kernel_rfl)
        (fun L a' u => ∃ v54 v55 v56 v57 : Value, a' = ⟨#[Value.slice A n c, Value.slice A1 n1 c1, undef, undef, .bool false, .pointer (some ⟨g5, 0, none⟩), Value.slice A6 rs.length c6, Value.slice A7 rs.length c7, Value.slice A8 rs.length c8, undef, u10, Value.slice A11 M c11, Value.slice A12 rs.length c12, .slice (some ⟨g13, o13, none⟩) M c13, Value.slice A14 rs.length c14, .slice (some ⟨g15, o15, none⟩) M c15, undef, Value.slice A n c, .agg #[.int .i64 a, .int .i64 b, .int .i64 x, .int .i64 d], Value.slice A1 n1 c1, Value.slice A6 rs.length c6, .slice (some ⟨w3.heap.size, 0, none⟩) 0 0, .slice (some ⟨w3.heap.size + 1, 0, none⟩) 0 0, Value.slice A6 rs.length c6, .int .i64 ↑rs.length, .int .i64 ↑rs.length, .bool false, u27, u28, u29, u30, u31, u32, u33, u34, u35, u36, u37, u38, u39, .agg #[.int .i64 a, .int .i64 b, .int .i64 x, .int .i64 d], .slice (some ⟨wr.heap.size, 0, none⟩) 1 1, Value.slice A6 rs.length c6, Value.slice A11 M c11, .agg #[.int .i64 a, .int .i64 b, .int .i64 x, .int .i64 d], Value.slice A7 rs.length c7, Value.slice A12 rs.length c12, Value.slice A11 M c11, .slice (some ⟨g13, o13, none⟩) M c13, .agg #[.int .i64 a, .int .i64 b, .int .i64 x, .int .i64 d], Value.slice A8 rs.length c8, Value.slice A14 rs.length c14, Value.slice A11 M c11, .slice (some ⟨g15, o15, none⟩) M c15, v54, v55, v56, v57, undef, undef, undef, undef, undef, undef, undef, undef, undef, undef, undef, undef, undef, undef, undef, undef, undef, undef, undef, undef, undef, undef, undef, undef, undef, undef, undef, undef, undef, undef, undef, undef, undef, undef, undef, undef, undef, undef, undef, undef, undef, undef, undef, undef, undef, undef, undef, undef, undef, undef, undef, undef, undef, undef, undef, undef, undef, undef, undef, undef, undef, undef, undef, undef], []⟩ ∧
          Hid (L 0 = true → v54 = Value.slice A12 rs.length c12) ∧ Hid (L 1 = true → v55 = .int .i64 ↑rs.length) ∧ Hid (L 2 = true → v56 = Value.slice A6 rs.length c6) ∧ Hid (L 3 = true → v57 = .int .i64 ↑rs.length) ∧ (Below w8.heap.size w8 u)) ?_ ?_ ?_
      · exact ⟨_, _, _, _, rfl, (Lib.hid fun h => by cases h), (Lib.hid fun h => by cases h), (Lib.hid fun h => by cases h), (Lib.hid fun h => by cases h), hW⟩
      · clear hW
        intro L a' u i hi1 hi2 hI hL hd
        obtain ⟨v54, v55, v56, v57, rfl, k0, k1, k2, k3, hW⟩ := hI
        obtain rfl | rfl | rfl | rfl := (show ∀ i : Nat, 0 ≤ i → i < 4 → (i = 0 ∨ i = 1 ∨ i = 2 ∨ i = 3) by omega) i hi1 hi2
        · -- operation 0
          have HW := Lib.hid hW
          clear hW hL hd hi1 hi2
          refine wpOp_step rfl fun K hK => ?_
          go_simp
          refine hK _ _ ⟨_, _, _, _, rfl, (Lib.hid fun _ => rfl), k1, k2, k3, HW.out⟩
        · -- operation 1
          obtain rfl := k0.out (hd 0 (by decide))
          have HW := Lib.hid hW
          clear hW hL hd hi1 hi2
          refine wpOp_step rfl fun K hK => ?_
          go_simp
          refine hK _ _ ⟨_, _, _, _, rfl, k0, (Lib.hid fun _ => rfl), k2, k3, HW.out⟩
        · -- operation 2
          have HW := Lib.hid hW
          clear hW hL hd hi1 hi2
          refine wpOp_step rfl fun K hK => ?_
          go_simp
          refine hK _ _ ⟨_, _, _, _, rfl, k0, k1, (Lib.hid fun _ => rfl), k3, HW.out⟩
        · -- operation 3
          obtain rfl := k2.out (hd 2 (by decide))
          have HW := Lib.hid hW
          clear hW hL hd hi1 hi2
          refine wpOp_step rfl fun K hK => ?_
          go_simp
          refine hK _ _ ⟨_, _, _, _, rfl, k0, k1, k2, (Lib.hid fun _ => rfl), HW.out⟩
      clear hW
      clear u
      intro L a' u hI hall
      obtain ⟨v54, v55, v56, v57, rfl, k0, k1, k2, k3, hW⟩ := hI
      obtain rfl := k0.out (hall 0 (by decide))
      obtain rfl := k1.out (hall 1 (by decide))
      obtain rfl := k2.out (hall 2 (by decide))
      obtain rfl := k3.out (hall 3 (by decide))
      clear k0 k1 k2 k3 hall L
      -- operation 4 alone
      refine from_one' hTab 4 (by kernel_rfl) ?_
      have HW := Lib.hid hW
      clear hW
      refine wpOp_step rfl fun K hK => ?_
      go_simp
      refine hK _ _ ?_
      clear hK K
      have hW := HW.out
      clear HW
      -- operation 5 alone
      refine from_one' hTab 5 (by kernel_rfl) ?_
      have HW := Lib.hid hW
      clear hW
      refine wpOp_step rfl fun K hK => ?_
      go_simp
      refine hK _ _ ?_
      clear hK K
      have hW := HW.out
      clear HW
      -- operations 6 to 9
      refine from_block' hTab 6 10 (by decide) (by kernel_rfl)
        (fun L a' u => ∃ v60 v61 v62 v63 : Value, a' = ⟨#[Value.slice A n c, Value.slice A1 n1 c1, undef, undef, .bool false, .pointer (some ⟨g5, 0, none⟩), Value.slice A6 rs.length c6, Value.slice A7 rs.length c7, Value.slice A8 rs.length c8, undef, u10, Value.slice A11 M c11, Value.slice A12 rs.length c12, .slice (some ⟨g13, o13, none⟩) M c13, Value.slice A14 rs.length c14, .slice (some ⟨g15, o15, none⟩) M c15, undef, Value.slice A n c, .agg #[.int .i64 a, .int .i64 b, .int .i64 x, .int .i64 d], Value.slice A1 n1 c1, Value.slice A6 rs.length c6, .slice (some ⟨w3.heap.size, 0, none⟩) 0 0, .slice (some ⟨w3.heap.size + 1, 0, none⟩) 0 0, Value.slice A6 rs.length c6, .int .i64 ↑rs.length, .int .i64 ↑rs.length, .bool false, u27, u28, u29, u30, u31, u32, u33, u34, u35, u36, u37, u38, u39, .agg #[.int .i64 a, .int .i64 b, .int .i64 x, .int .i64 d], .slice (some ⟨wr.heap.size, 0, none⟩) 1 1, Value.slice A6 rs.length c6, Value.slice A11 M c11, .agg #[.int .i64 a, .int .i64 b, .int .i64 x, .int .i64 d], Value.slice A7 rs.length c7, Value.slice A12 rs.length c12, Value.slice A11 M c11, .slice (some ⟨g13, o13, none⟩) M c13, .agg #[.int .i64 a, .int .i64 b, .int .i64 x, .int .i64 d], Value.slice A8 rs.length c8, Value.slice A14 rs.length c14, Value.slice A11 M c11, .slice (some ⟨g15, o15, none⟩) M c15, Value.slice A12 rs.length c12, .int .i64 ↑rs.length, Value.slice A6 rs.length c6, .int .i64 ↑rs.length, .bool false, .bool false, v60, v61, v62, v63, undef, undef, undef, undef, undef, undef, undef, undef, undef, undef, undef, undef, undef, undef, undef, undef, undef, undef, undef, undef, undef, undef, undef, undef, undef, undef, undef, undef, undef, undef, undef, undef, undef, undef, undef, undef, undef, undef, undef, undef, undef, undef, undef, undef, undef, undef, undef, undef, undef, undef, undef, undef, undef, undef, undef, undef, undef, undef], []⟩ ∧
          Hid (L 6 = true → v60 = .slice (some ⟨g13, o13, none⟩) M c13) ∧ Hid (L 7 = true → v61 = .int .i64 ↑M) ∧ Hid (L 8 = true → v62 = Value.slice A11 M c11) ∧ Hid (L 9 = true → v63 = .int .i64 ↑M) ∧ (Below w8.heap.size w8 u)) ?_ ?_ ?_
      · exact ⟨_, _, _, _, rfl, (Lib.hid fun h => by cases h), (Lib.hid fun h => by cases h), (Lib.hid fun h => by cases h), (Lib.hid fun h => by cases h), hW⟩
      · clear hW
        intro L a' u i hi1 hi2 hI hL hd
        obtain ⟨v60, v61, v62, v63, rfl, k6, k7, k8, k9, hW⟩ := hI
        obtain rfl | rfl | rfl | rfl := (show ∀ i : Nat, 6 ≤ i → i < 10 → (i = 6 ∨ i = 7 ∨ i = 8 ∨ i = 9) by omega) i hi1 hi2
        · -- operation 6
          have HW := Lib.hid hW
          clear hW hL hd hi1 hi2
          refine wpOp_step rfl fun K hK => ?_
          go_simp
          refine hK _ _ ⟨_, _, _, _, rfl, (Lib.hid fun _ => rfl), k7, k8, k9, HW.out⟩
        · -- operation 7
          obtain rfl := k6.out (hd 6 (by decide))
          have HW := Lib.hid hW
          clear hW hL hd hi1 hi2
          refine wpOp_step rfl fun K hK => ?_
          go_simp
          refine hK _ _ ⟨_, _, _, _, rfl, k6, (Lib.hid fun _ => rfl), k8, k9, HW.out⟩
        · -- operation 8
          have HW := Lib.hid hW
          clear hW hL hd hi1 hi2
          refine wpOp_step rfl fun K hK => ?_
          go_simp
          refine hK _ _ ⟨_, _, _, _, rfl, k6, k7, (Lib.hid fun _ => rfl), k9, HW.out⟩
        · -- operation 9
          obtain rfl := k8.out (hd 8 (by decide))
          have HW := Lib.hid hW
          clear hW hL hd hi1 hi2
          refine wpOp_step rfl fun K hK => ?_
          go_simp
          refine hK _ _ ⟨_, _, _, _, rfl, k6, k7, k8, (Lib.hid fun _ => rfl), HW.out⟩
      clear hW
      clear u
      intro L a' u hI hall
      obtain ⟨v60, v61, v62, v63, rfl, k6, k7, k8, k9, hW⟩ := hI
      obtain rfl := k6.out (hall 6 (by decide))
      obtain rfl := k7.out (hall 7 (by decide))
      obtain rfl := k8.out (hall 8 (by decide))
      obtain rfl := k9.out (hall 9 (by decide))
      clear k6 k7 k8 k9 hall L
      -- operation 10 alone
      refine from_one' hTab 10 (by kernel_rfl) ?_
      have HW := Lib.hid hW
      clear hW
      refine wpOp_step rfl fun K hK => ?_
      go_simp
      refine hK _ _ ?_
      clear hK K
      have hW := HW.out
      clear HW
      -- operation 11 alone
      refine from_one' hTab 11 (by kernel_rfl) ?_
      have HW := Lib.hid hW
      clear hW
      refine wpOp_step rfl fun K hK => ?_
      go_simp
      refine hK _ _ ?_
      clear hK K
      have hW := HW.out
      clear HW
      -- operation 12 alone
      refine from_one' hTab 12 (by kernel_rfl) ?_
      have HW := Lib.hid hW
      clear hW
      refine wpOp_step rfl fun K hK => ?_
      go_simp
      refine hK _ _ ?_
      clear hK K
      have hW := HW.out
      clear HW
      -- operations 13 to 16
      refine from_block' hTab 13 17 (by decide) (by kernel_rfl)
        (fun L a' u => ∃ v67 v68 v69 v70 : Value, a' = ⟨#[Value.slice A n c, Value.slice A1 n1 c1, undef, undef, .bool false, .pointer (some ⟨g5, 0, none⟩), Value.slice A6 rs.length c6, Value.slice A7 rs.length c7, Value.slice A8 rs.length c8, undef, u10, Value.slice A11 M c11, Value.slice A12 rs.length c12, .slice (some ⟨g13, o13, none⟩) M c13, Value.slice A14 rs.length c14, .slice (some ⟨g15, o15, none⟩) M c15, undef, Value.slice A n c, .agg #[.int .i64 a, .int .i64 b, .int .i64 x, .int .i64 d], Value.slice A1 n1 c1, Value.slice A6 rs.length c6, .slice (some ⟨w3.heap.size, 0, none⟩) 0 0, .slice (some ⟨w3.heap.size + 1, 0, none⟩) 0 0, Value.slice A6 rs.length c6, .int .i64 ↑rs.length, .int .i64 ↑rs.length, .bool false, u27, u28, u29, u30, u31, u32, u33, u34, u35, u36, u37, u38, u39, .agg #[.int .i64 a, .int .i64 b, .int .i64 x, .int .i64 d], .slice (some ⟨wr.heap.size, 0, none⟩) 1 1, Value.slice A6 rs.length c6, Value.slice A11 M c11, .agg #[.int .i64 a, .int .i64 b, .int .i64 x, .int .i64 d], Value.slice A7 rs.length c7, Value.slice A12 rs.length c12, Value.slice A11 M c11, .slice (some ⟨g13, o13, none⟩) M c13, .agg #[.int .i64 a, .int .i64 b, .int .i64 x, .int .i64 d], Value.slice A8 rs.length c8, Value.slice A14 rs.length c14, Value.slice A11 M c11, .slice (some ⟨g15, o15, none⟩) M c15, Value.slice A12 rs.length c12, .int .i64 ↑rs.length, Value.slice A6 rs.length c6, .int .i64 ↑rs.length, .bool false, .bool false, .slice (some ⟨g13, o13, none⟩) M c13, .int .i64 ↑M, Value.slice A11 M c11, .int .i64 ↑M, .bool false, .bool false, .bool false, v67, v68, v69, v70, undef, undef, undef, undef, undef, undef, undef, undef, undef, undef, undef, undef, undef, undef, undef, undef, undef, undef, undef, undef, undef, undef, undef, undef, undef, undef, undef, undef, undef, undef, undef, undef, undef, undef, undef, undef, undef, undef, undef, undef, undef, undef, undef, undef, undef, undef, undef, undef, undef, undef, undef], []⟩ ∧
          Hid (L 13 = true → v67 = Value.slice A14 rs.length c14) ∧ Hid (L 14 = true → v68 = .int .i64 ↑rs.length) ∧ Hid (L 15 = true → v69 = Value.slice A6 rs.length c6) ∧ Hid (L 16 = true → v70 = .int .i64 ↑rs.length) ∧ (Below w8.heap.size w8 u)) ?_ ?_ ?_
      · exact ⟨_, _, _, _, rfl, (Lib.hid fun h => by cases h), (Lib.hid fun h => by cases h), (Lib.hid fun h => by cases h), (Lib.hid fun h => by cases h), hW⟩
      · clear hW
        intro L a' u i hi1 hi2 hI hL hd
        obtain ⟨v67, v68, v69, v70, rfl, k13, k14, k15, k16, hW⟩ := hI
        obtain rfl | rfl | rfl | rfl := (show ∀ i : Nat, 13 ≤ i → i < 17 → (i = 13 ∨ i = 14 ∨ i = 15 ∨ i = 16) by omega) i hi1 hi2
        · -- operation 13
          have HW := Lib.hid hW
          clear hW hL hd hi1 hi2
          refine wpOp_step rfl fun K hK => ?_
          go_simp
          refine hK _ _ ⟨_, _, _, _, rfl, (Lib.hid fun _ => rfl), k14, k15, k16, HW.out⟩
        · -- operation 14
          obtain rfl := k13.out (hd 13 (by decide))
          have HW := Lib.hid hW
          clear hW hL hd hi1 hi2
          refine wpOp_step rfl fun K hK => ?_
          go_simp
          refine hK _ _ ⟨_, _, _, _, rfl, k13, (Lib.hid fun _ => rfl), k15, k16, HW.out⟩
        · -- operation 15
          have HW := Lib.hid hW
          clear hW hL hd hi1 hi2
          refine wpOp_step rfl fun K hK => ?_
          go_simp
          refine hK _ _ ⟨_, _, _, _, rfl, k13, k14, (Lib.hid fun _ => rfl), k16, HW.out⟩
        · -- operation 16
          obtain rfl := k15.out (hd 15 (by decide))
          have HW := Lib.hid hW
          clear hW hL hd hi1 hi2
          refine wpOp_step rfl fun K hK => ?_
          go_simp
          refine hK _ _ ⟨_, _, _, _, rfl, k13, k14, k15, (Lib.hid fun _ => rfl), HW.out⟩
      clear hW
      clear u
      intro L a' u hI hall
      obtain ⟨v67, v68, v69, v70, rfl, k13, k14, k15, k16, hW⟩ := hI
      obtain rfl := k13.out (hall 13 (by decide))
      obtain rfl := k14.out (hall 14 (by decide))
      obtain rfl := k15.out (hall 15 (by decide))
      obtain rfl := k16.out (hall 16 (by decide))
      clear k13 k14 k15 k16 hall L
      -- operation 17 alone
      refine from_one' hTab 17 (by kernel_rfl) ?_
      have HW := Lib.hid hW
      clear hW
      refine wpOp_step rfl fun K hK => ?_
      go_simp
      refine hK _ _ ?_
      clear hK K
      have hW := HW.out
      clear HW
      -- operation 18 alone
      refine from_one' hTab 18 (by kernel_rfl) ?_
      have HW := Lib.hid hW
      clear hW
      refine wpOp_step rfl fun K hK => ?_
      go_simp
      refine hK _ _ ?_
      clear hK K
      have hW := HW.out
      clear HW
      -- operation 19 alone
      refine from_one' hTab 19 (by kernel_rfl) ?_
      have HW := Lib.hid hW
      clear hW
      refine wpOp_step rfl fun K hK => ?_
      go_simp
      refine hK _ _ ?_
      clear hK K
      have hW := HW.out
      clear HW
      -- operations 20 to 23
      refine from_block' hTab 20 24 (by decide) (by kernel_rfl)
        (fun L a' u => ∃ v74 v75 v76 v77 : Value, a' = ⟨#[Value.slice A n c, Value.slice A1 n1 c1, undef, undef, .bool false, .pointer (some ⟨g5, 0, none⟩), Value.slice A6 rs.length c6, Value.slice A7 rs.length c7, Value.slice A8 rs.length c8, undef, u10, Value.slice A11 M c11, Value.slice A12 rs.length c12, .slice (some ⟨g13, o13, none⟩) M c13, Value.slice A14 rs.length c14, .slice (some ⟨g15, o15, none⟩) M c15, undef, Value.slice A n c, .agg #[.int .i64 a, .int .i64 b, .int .i64 x, .int .i64 d], Value.slice A1 n1 c1, Value.slice A6 rs.length c6, .slice (some ⟨w3.heap.size, 0, none⟩) 0 0, .slice (some ⟨w3.heap.size + 1, 0, none⟩) 0 0, Value.slice A6 rs.length c6, .int .i64 ↑rs.length, .int .i64 ↑rs.length, .bool false, u27, u28, u29, u30, u31, u32, u33, u34, u35, u36, u37, u38, u39, .agg #[.int .i64 a, .int .i64 b, .int .i64 x, .int .i64 d], .slice (some ⟨wr.heap.size, 0, none⟩) 1 1, Value.slice A6 rs.length c6, Value.slice A11 M c11, .agg #[.int .i64 a, .int .i64 b, .int .i64 x, .int .i64 d], Value.slice A7 rs.length c7, Value.slice A12 rs.length c12, Value.slice A11 M c11, .slice (some ⟨g13, o13, none⟩) M c13, .agg #[.int .i64 a, .int .i64 b, .int .i64 x, .int .i64 d], Value.slice A8 rs.length c8, Value.slice A14 rs.length c14, Value.slice A11 M c11, .slice (some ⟨g15, o15, none⟩) M c15, Value.slice A12 rs.length c12, .int .i64 ↑rs.length, Value.slice A6 rs.length c6, .int .i64 ↑rs.length, .bool false, .bool false, .slice (some ⟨g13, o13, none⟩) M c13, .int .i64 ↑M, Value.slice A11 M c11, .int .i64 ↑M, .bool false, .bool false, .bool false, Value.slice A14 rs.length c14, .int .i64 ↑rs.length, Value.slice A6 rs.length c6, .int .i64 ↑rs.length, .bool false, .bool false, .bool false, v74, v75, v76, v77, undef, undef, undef, undef, undef, undef, undef, undef, undef, undef, undef, undef, undef, undef, undef, undef, undef, undef, undef, undef, undef, undef, undef, undef, undef, undef, undef, undef, undef, undef, undef, undef, undef, undef, undef, undef, undef, undef, undef, undef, undef, undef, undef, undef], []⟩ ∧
          Hid (L 20 = true → v74 = .slice (some ⟨g15, o15, none⟩) M c15) ∧ Hid (L 21 = true → v75 = .int .i64 ↑M) ∧ Hid (L 22 = true → v76 = Value.slice A11 M c11) ∧ Hid (L 23 = true → v77 = .int .i64 ↑M) ∧ (Below w8.heap.size w8 u)) ?_ ?_ ?_
      · exact ⟨_, _, _, _, rfl, (Lib.hid fun h => by cases h), (Lib.hid fun h => by cases h), (Lib.hid fun h => by cases h), (Lib.hid fun h => by cases h), hW⟩
      · clear hW
        intro L a' u i hi1 hi2 hI hL hd
        obtain ⟨v74, v75, v76, v77, rfl, k20, k21, k22, k23, hW⟩ := hI
        obtain rfl | rfl | rfl | rfl := (show ∀ i : Nat, 20 ≤ i → i < 24 → (i = 20 ∨ i = 21 ∨ i = 22 ∨ i = 23) by omega) i hi1 hi2
        · -- operation 20
          have HW := Lib.hid hW
          clear hW hL hd hi1 hi2
          refine wpOp_step rfl fun K hK => ?_
          go_simp
          refine hK _ _ ⟨_, _, _, _, rfl, (Lib.hid fun _ => rfl), k21, k22, k23, HW.out⟩
        · -- operation 21
          obtain rfl := k20.out (hd 20 (by decide))
          have HW := Lib.hid hW
          clear hW hL hd hi1 hi2
          refine wpOp_step rfl fun K hK => ?_
          go_simp
          refine hK _ _ ⟨_, _, _, _, rfl, k20, (Lib.hid fun _ => rfl), k22, k23, HW.out⟩
        · -- operation 22
          have HW := Lib.hid hW
          clear hW hL hd hi1 hi2
          refine wpOp_step rfl fun K hK => ?_
          go_simp
          refine hK _ _ ⟨_, _, _, _, rfl, k20, k21, (Lib.hid fun _ => rfl), k23, HW.out⟩
        · -- operation 23
          obtain rfl := k22.out (hd 22 (by decide))
          have HW := Lib.hid hW
          clear hW hL hd hi1 hi2
          refine wpOp_step rfl fun K hK => ?_
          go_simp
          refine hK _ _ ⟨_, _, _, _, rfl, k20, k21, k22, (Lib.hid fun _ => rfl), HW.out⟩
      clear hW
      clear u
      intro L a' u hI hall
      obtain ⟨v74, v75, v76, v77, rfl, k20, k21, k22, k23, hW⟩ := hI
      obtain rfl := k20.out (hall 20 (by decide))
      obtain rfl := k21.out (hall 21 (by decide))
      obtain rfl := k22.out (hall 22 (by decide))
      obtain rfl := k23.out (hall 23 (by decide))
      clear k20 k21 k22 k23 hall L
      -- operation 24 alone
      refine from_one' hTab 24 (by kernel_rfl) ?_
      have HW := Lib.hid hW
      clear hW
      refine wpOp_step rfl fun K hK => ?_
      go_simp
      refine hK _ _ ?_
      clear hK K
      have hW := HW.out
      clear HW
      -- operation 25 alone
      refine from_one' hTab 25 (by kernel_rfl) ?_
      have HW := Lib.hid hW
      clear hW
      refine wpOp_step rfl fun K hK => ?_
      go_simp
      refine hK _ _ ?_
      clear hK K
      have hW := HW.out
      clear HW
      -- operation 26 alone
      refine from_one' hTab 26 (by kernel_rfl) ?_
      have HW := Lib.hid hW
      clear hW
      refine wpOp_step rfl fun K hK => ?_
      go_simp
      refine hK _ _ ?_
      clear hK K
      have hW := HW.out
      clear HW
      -- operations 27 to 30
      refine from_block' hTab 27 31 (by decide) (by kernel_rfl)
        (fun L a' u => ∃ v81 v82 v83 v84 : Value, a' = ⟨#[Value.slice A n c, Value.slice A1 n1 c1, undef, undef, .bool false, .pointer (some ⟨g5, 0, none⟩), Value.slice A6 rs.length c6, Value.slice A7 rs.length c7, Value.slice A8 rs.length c8, undef, u10, Value.slice A11 M c11, Value.slice A12 rs.length c12, .slice (some ⟨g13, o13, none⟩) M c13, Value.slice A14 rs.length c14, .slice (some ⟨g15, o15, none⟩) M c15, undef, Value.slice A n c, .agg #[.int .i64 a, .int .i64 b, .int .i64 x, .int .i64 d], Value.slice A1 n1 c1, Value.slice A6 rs.length c6, .slice (some ⟨w3.heap.size, 0, none⟩) 0 0, .slice (some ⟨w3.heap.size + 1, 0, none⟩) 0 0, Value.slice A6 rs.length c6, .int .i64 ↑rs.length, .int .i64 ↑rs.length, .bool false, u27, u28, u29, u30, u31, u32, u33, u34, u35, u36, u37, u38, u39, .agg #[.int .i64 a, .int .i64 b, .int .i64 x, .int .i64 d], .slice (some ⟨wr.heap.size, 0, none⟩) 1 1, Value.slice A6 rs.length c6, Value.slice A11 M c11, .agg #[.int .i64 a, .int .i64 b, .int .i64 x, .int .i64 d], Value.slice A7 rs.length c7, Value.slice A12 rs.length c12, Value.slice A11 M c11, .slice (some ⟨g13, o13, none⟩) M c13, .agg #[.int .i64 a, .int .i64 b, .int .i64 x, .int .i64 d], Value.slice A8 rs.length c8, Value.slice A14 rs.length c14, Value.slice A11 M c11, .slice (some ⟨g15, o15, none⟩) M c15, Value.slice A12 rs.length c12, .int .i64 ↑rs.length, Value.slice A6 rs.length c6, .int .i64 ↑rs.length, .bool false, .bool false, .slice (some ⟨g13, o13, none⟩) M c13, .int .i64 ↑M, Value.slice A11 M c11, .int .i64 ↑M, .bool false, .bool false, .bool false, Value.slice A14 rs.length c14, .int .i64 ↑rs.length, Value.slice A6 rs.length c6, .int .i64 ↑rs.length, .bool false, .bool false, .bool false, .slice (some ⟨g15, o15, none⟩) M c15, .int .i64 ↑M, Value.slice A11 M c11, .int .i64 ↑M, .bool false, .bool false, .bool false, v81, v82, v83, v84, undef, undef, undef, undef, undef, undef, undef, undef, undef, undef, undef, undef, undef, undef, undef, undef, undef, undef, undef, undef, undef, undef, undef, undef, undef, undef, undef, undef, undef, undef, undef, undef, undef, undef, undef, undef, undef], []⟩ ∧
          Hid (L 27 = true → v81 = .slice (some ⟨g13, o13, none⟩) M c13) ∧ Hid (L 28 = true → v82 = .pointer (some ⟨g13, o13, none⟩)) ∧ Hid (L 29 = true → v83 = .agg #[.int .i64 a, .int .i64 b, .int .i64 x, .int .i64 d]) ∧ Hid (L 30 = true → v84 = .agg #[.int .i64 a, .int .i64 b, .int .i64 x, .int .i64 d]) ∧ (Below w8.heap.size w8 u)) ?_ ?_ ?_
      · exact ⟨_, _, _, _, rfl, (Lib.hid fun h => by cases h), (Lib.hid fun h => by cases h), (Lib.hid fun h => by cases h), (Lib.hid fun h => by cases h), hW⟩
      · clear hW
        intro L a' u i hi1 hi2 hI hL hd
        obtain ⟨v81, v82, v83, v84, rfl, k27, k28, k29, k30, hW⟩ := hI
        obtain rfl | rfl | rfl | rfl := (show ∀ i : Nat, 27 ≤ i → i < 31 → (i = 27 ∨ i = 28 ∨ i = 29 ∨ i = 30) by omega) i hi1 hi2
        · -- operation 27
          have HW := Lib.hid hW
          clear hW hL hd hi1 hi2
          refine wpOp_step rfl fun K hK => ?_
          go_simp
          refine hK _ _ ⟨_, _, _, _, rfl, (Lib.hid fun _ => rfl), k28, k29, k30, HW.out⟩
        · -- operation 28
          obtain rfl := k27.out (hd 27 (by decide))
          have HW := Lib.hid hW
          clear hW hL hd hi1 hi2
          refine wpOp_step rfl fun K hK => ?_
          go_simp
          refine hK _ _ ⟨_, _, _, _, rfl, k27, (Lib.hid fun _ => rfl), k29, k30, HW.out⟩
        · -- operation 29
          obtain rfl := k28.out (hd 28 (by decide))
          obtain ⟨c0, c1, c2, c3⟩ := (HF.out.1.by hW).2
          have HW := Lib.hid hW
          clear hW hL hd hi1 hi2
          refine wpOp_step rfl fun K hK => ?_
          go_simp
          refine hK _ _ ⟨_, _, _, _, rfl, k27, k28, (Lib.hid fun _ => rfl), k30, HW.out⟩
        · -- operation 30
          obtain ⟨c0, c1, c2, c3⟩ := (HF.out.2.2.by hW).four.1
          have HW := Lib.hid hW
          clear hW hL hd hi1 hi2
          refine wpOp_step rfl fun K hK => ?_
          go_simp
          refine hK _ _ ⟨_, _, _, _, rfl, k27, k28, k29, (Lib.hid fun _ => rfl), HW.out⟩
      clear hW
      clear u
      intro L a' u hI hall
      obtain ⟨v81, v82, v83, v84, rfl, k27, k28, k29, k30, hW⟩ := hI
      obtain rfl := k27.out (hall 27 (by decide))
      obtain rfl := k28.out (hall 28 (by decide))
      obtain rfl := k29.out (hall 29 (by decide))
      obtain rfl := k30.out (hall 30 (by decide))
      clear k27 k28 k29 k30 hall L
      -- operation 31 alone
      refine from_one' hTab 31 (by kernel_rfl) ?_
      have HW := Lib.hid hW
      clear hW
      refine wpOp_step rfl fun K hK => ?_
      go_simp
      refine hK _ _ ?_
      clear hK K
      have hW := HW.out
      clear HW
      -- operation 32 alone
      refine from_one' hTab 32 (by kernel_rfl) ?_
      have HW := Lib.hid hW
      clear hW
      refine wpOp_step rfl fun K hK => ?_
      go_simp
      refine hK _ _ ?_
      clear hK K
      have hW := HW.out
      clear HW
      -- operation 33 alone
      refine from_one' hTab 33 (by kernel_rfl) ?_
      have HW := Lib.hid hW
      clear hW
      refine wpOp_step rfl fun K hK => ?_
      go_simp
      refine hK _ _ ?_
      clear hK K
      have hW := HW.out
      clear HW
      -- operations 34 to 37
      refine from_block' hTab 34 38 (by decide) (by kernel_rfl)
        (fun L a' u => ∃ v88 v89 v90 v91 : Value, a' = ⟨#[Value.slice A n c, Value.slice A1 n1 c1, undef, undef, .bool false, .pointer (some ⟨g5, 0, none⟩), Value.slice A6 rs.length c6, Value.slice A7 rs.length c7, Value.slice A8 rs.length c8, undef, u10, Value.slice A11 M c11, Value.slice A12 rs.length c12, .slice (some ⟨g13, o13, none⟩) M c13, Value.slice A14 rs.length c14, .slice (some ⟨g15, o15, none⟩) M c15, undef, Value.slice A n c, .agg #[.int .i64 a, .int .i64 b, .int .i64 x, .int .i64 d], Value.slice A1 n1 c1, Value.slice A6 rs.length c6, .slice (some ⟨w3.heap.size, 0, none⟩) 0 0, .slice (some ⟨w3.heap.size + 1, 0, none⟩) 0 0, Value.slice A6 rs.length c6, .int .i64 ↑rs.length, .int .i64 ↑rs.length, .bool false, u27, u28, u29, u30, u31, u32, u33, u34, u35, u36, u37, u38, u39, .agg #[.int .i64 a, .int .i64 b, .int .i64 x, .int .i64 d], .slice (some ⟨wr.heap.size, 0, none⟩) 1 1, Value.slice A6 rs.length c6, Value.slice A11 M c11, .agg #[.int .i64 a, .int .i64 b, .int .i64 x, .int .i64 d], Value.slice A7 rs.length c7, Value.slice A12 rs.length c12, Value.slice A11 M c11, .slice (some ⟨g13, o13, none⟩) M c13, .agg #[.int .i64 a, .int .i64 b, .int .i64 x, .int .i64 d], Value.slice A8 rs.length c8, Value.slice A14 rs.length c14, Value.slice A11 M c11, .slice (some ⟨g15, o15, none⟩) M c15, Value.slice A12 rs.length c12, .int .i64 ↑rs.length, Value.slice A6 rs.length c6, .int .i64 ↑rs.length, .bool false, .bool false, .slice (some ⟨g13, o13, none⟩) M c13, .int .i64 ↑M, Value.slice A11 M c11, .int .i64 ↑M, .bool false, .bool false, .bool false, Value.slice A14 rs.length c14, .int .i64 ↑rs.length, Value.slice A6 rs.length c6, .int .i64 ↑rs.length, .bool false, .bool false, .bool false, .slice (some ⟨g15, o15, none⟩) M c15, .int .i64 ↑M, Value.slice A11 M c11, .int .i64 ↑M, .bool false, .bool false, .bool false, .slice (some ⟨g13, o13, none⟩) M c13, .pointer (some ⟨g13, o13, none⟩), .agg #[.int .i64 a, .int .i64 b, .int .i64 x, .int .i64 d], .agg #[.int .i64 a, .int .i64 b, .int .i64 x, .int .i64 d], .bool false, .bool false, .bool false, v88, v89, v90, v91, undef, undef, undef, undef, undef, undef, undef, undef, undef, undef, undef, undef, undef, undef, undef, undef, undef, undef, undef, undef, undef, undef, undef, undef, undef, undef, undef, undef, undef, undef], []⟩ ∧
          Hid (L 34 = true → v88 = .slice (some ⟨g15, o15, none⟩) M c15) ∧ Hid (L 35 = true → v89 = .pointer (some ⟨g15, o15, none⟩)) ∧ Hid (L 36 = true → v90 = .agg #[.int .i64 a, .int .i64 b, .int .i64 x, .int .i64 d]) ∧ Hid (L 37 = true → v91 = .agg #[.int .i64 a, .int .i64 b, .int .i64 x, .int .i64 d]) ∧ (Below w8.heap.size w8 u)) ?_ ?_ ?_
      · exact ⟨_, _, _, _, rfl, (Lib.hid fun h => by cases h), (Lib.hid fun h => by cases h), (Lib.hid fun h => by cases h), (Lib.hid fun h => by cases h), hW⟩
      · clear hW
        intro L a' u i hi1 hi2 hI hL hd
        obtain ⟨v88, v89, v90, v91, rfl, k34, k35, k36, k37, hW⟩ := hI
        obtain rfl | rfl | rfl | rfl := (show ∀ i : Nat, 34 ≤ i → i < 38 → (i = 34 ∨ i = 35 ∨ i = 36 ∨ i = 37) by omega) i hi1 hi2
        · -- operation 34
          have HW := Lib.hid hW
          clear hW hL hd hi1 hi2
          refine wpOp_step rfl fun K hK => ?_
          go_simp
          refine hK _ _ ⟨_, _, _, _, rfl, (Lib.hid fun _ => rfl), k35, k36, k37, HW.out⟩
        · -- operation 35
          obtain rfl := k34.out (hd 34 (by decide))
          have HW := Lib.hid hW
          clear hW hL hd hi1 hi2
          refine wpOp_step rfl fun K hK => ?_
          go_simp
          refine hK _ _ ⟨_, _, _, _, rfl, k34, (Lib.hid fun _ => rfl), k36, k37, HW.out⟩
        · -- operation 36
          obtain rfl := k35.out (hd 35 (by decide))
          obtain ⟨c0, c1, c2, c3⟩ := (HF.out.2.1.by hW).2
          have HW := Lib.hid hW
          clear hW hL hd hi1 hi2
          refine wpOp_step rfl fun K hK => ?_
          go_simp
          refine hK _ _ ⟨_, _, _, _, rfl, k34, k35, (Lib.hid fun _ => rfl), k37, HW.out⟩
        · -- operation 37
          obtain ⟨c0, c1, c2, c3⟩ := (HF.out.2.2.by hW).four.1
          have HW := Lib.hid hW
          clear hW hL hd hi1 hi2
          refine wpOp_step rfl fun K hK => ?_
          go_simp
          refine hK _ _ ⟨_, _, _, _, rfl, k34, k35, k36, (Lib.hid fun _ => rfl), HW.out⟩
      clear hW
      clear u
      intro L a' u hI hall
      obtain ⟨v88, v89, v90, v91, rfl, k34, k35, k36, k37, hW⟩ := hI
      obtain rfl := k34.out (hall 34 (by decide))
      obtain rfl := k35.out (hall 35 (by decide))
      obtain rfl := k36.out (hall 36 (by decide))
      obtain rfl := k37.out (hall 37 (by decide))
      clear k34 k35 k36 k37 hall L
      -- operation 38 alone
      refine from_one' hTab 38 (by kernel_rfl) ?_
      have HW := Lib.hid hW
      clear hW
      refine wpOp_step rfl fun K hK => ?_
      go_simp
      refine hK _ _ ?_
      clear hK K
      have hW := HW.out
      clear HW
      -- operation 39 alone
      refine from_one' hTab 39 (by kernel_rfl) ?_
      have HW := Lib.hid hW
      clear hW
      refine wpOp_step rfl fun K hK => ?_
      go_simp
      refine hK _ _ ?_
      clear hK K
      have hW := HW.out
      clear HW
      refine from_end' hTab 40 (by kernel_rfl) ?_
      clear hTab
      have HB9 := Lib.hid (HB3.out.trans ((HB.out.trans ((HB8.out.trans (hW.mono HB8.out.size)).mono HB.out.size)).mono HB3.out.size))
      have HRR := Lib.hid (And.intro (HR.out.1.by hW) (And.intro (HR.out.2.1.by hW) (And.intro (HR.out.2.2.1.by hW) (HR.out.2.2.2.by hW))))
      obtain ⟨w9, hw9⟩ : ∃ w9, w9 = u := ⟨_, rfl⟩
      rw [← hw9] at HB9 HRR ⊢
      clear hw9 hW HF HR HB8
      generalize (Value.slice (some ⟨wr.heap.size, 0, none⟩) 1 1) = v41
      go_wp2
      go_loopw [96] (fun i wr => ∃ j : Nat, j ≤ rs.length ∧ i = .int .i64 j ∧ Below w9.heap.size w9 wr) (fun i _ => rs.length - (intOf i).toNat)
      case atStart => exact ⟨0, Nat.zero_le _, rfl, Below.refl _ _⟩
      case round =>
        obtain ⟨j, hj, rfl, hbel⟩ := hrel
        by_cases hlt : j < rs.length
        · have r12 := HRR.out.1.by hbel
          have r13 := HRR.out.2.1.by hbel
          have r14 := HRR.out.2.2.1.by hbel
          have r15 := HRR.out.2.2.2.by hbel
          obtain ⟨g12, o12, rfl, hg12⟩ := r12.addr (by rw [runsS_length]; omega)
          obtain ⟨g14, o14, rfl, hg14⟩ := r14.addr (by rw [runsS_length]; omega)
          obtain ⟨_, _, e13, hg13⟩ := r13.addr (by rw [accs_length]; omega)
          obtain ⟨_, _, e15, hg15⟩ := r15.addr (by rw [accs_length]; omega)
          simp only [Option.some.injEq, Addr.mk.injEq, and_true] at e13 e15
          rw [← e13.1] at hg13
          rw [← e15.1] at hg15
          obtain ⟨⟨p, q, s, t⟩, hv1⟩ : ∃ v : R, runS ⟨a, b, x, d⟩ ((kindS 4 rs).take (j + 1)) = v := ⟨_, rfl⟩
          obtain ⟨⟨p', q', s', t'⟩, hv2⟩ : ∃ v : R, runS ⟨a, b, x, d⟩ ((kindS 5 rs).take (j + 1)) = v := ⟨_, rfl⟩
          have m12 := (runsS_get ⟨a, b, x, d⟩ (kindS 4 rs) rs.length j hlt).trans hv1
          have m14 := (runsS_get ⟨a, b, x, d⟩ (kindS 5 rs) rs.length j hlt).trans hv2
          have m13 := (accs_get inter ((⟨a, b, x, d⟩ : R) :: rs) M (j + 1) (by omega)).trans ((meets_law 4 inter (fun _ _ => rfl) ⟨a, b, x, d⟩ rs j).symm.trans hv1)
          have m15 := (accs_get union ((⟨a, b, x, d⟩ : R) :: rs) M (j + 1) (by omega)).trans ((meets_law 5 union (fun _ _ => rfl) ⟨a, b, x, d⟩ rs j).symm.trans hv2)
          have HG := Lib.hid (And.intro (r12.four (i := j) (by rw [runsS_length]; exact hlt) m12 hg12) (And.intro (r13.four (i := j + 1) (by rw [accs_length]; omega) m13 hg13) (And.intro (r14.four (i := j) (by rw [runsS_length]; exact hlt) m14 hg14) (r15.four (i := j + 1) (by rw [accs_length]; omega) m15 hg15))))
          have HBL := Lib.hid hbel
          clear r12 r13 r14 r15 e13 e15 m12 m13 m14 m15 hv1 hv2 hg12 hg13 hg14 hg15 hbel
          have x1 : IntKind.i64.wrap ((j : Int) + 1) = (j : Int) + 1 := IntWalk.i64_in _ (by omega)
          have x2 : 0 ≤ (j : Int) + 1 := by omega
          have x3 : (j : Int) + 1 < M := by omega
          have x4 : ((j : Int) + 1).toNat = j + 1 := by omega
          have x5 : j + 1 < M := by omega
          go_wp2_with fail
          refine from_table tab_meets16 (by kernel_rfl) (by kernel_rfl) (by kernel_rfl) (by kernel_rfl) fun hTab => ?_
          refine from_gen (fun u => Below wr.heap.size wr u) ?_ ?_
          · exact (Below.refl _ _).drew
          intro u hW
          -- operations 0 to 8
          refine from_block' hTab 0 9 (by decide) (by kernel_rfl)
            (fun L a' u => ∃ v99 v100 v101 v102 v103 v104 v105 v106 v107 : Value, a' = ⟨#[Value.slice A n c, Value.slice A1 n1 c1, undef, undef, u4, .pointer (some ⟨g5, 0, none⟩), Value.slice A6 rs.length c6, Value.slice A7 rs.length c7, Value.slice A8 rs.length c8, undef, u10, Value.slice A11 M c11, .slice (some ⟨g12, o12, none⟩) rs.length c12, .slice (some ⟨g13, o13, none⟩) M c13, .slice (some ⟨g14, o14, none⟩) rs.length c14, .slice (some ⟨g15, o15, none⟩) M c15, .int .i64 ↑j, Value.slice A n c, .agg #[.int .i64 a, .int .i64 b, .int .i64 x, .int .i64 d], Value.slice A1 n1 c1, Value.slice A6 rs.length c6, .slice (some ⟨w3.heap.size, 0, none⟩) 0 0, .slice (some ⟨w3.heap.size + 1, 0, none⟩) 0 0, Value.slice A6 rs.length c6, .int .i64 ↑rs.length, .int .i64 ↑rs.length, .bool false, u27, u28, u29, u30, u31, u32, u33, u34, u35, u36, u37, u38, u39, .agg #[.int .i64 a, .int .i64 b, .int .i64 x, .int .i64 d], v41, Value.slice A6 rs.length c6, Value.slice A11 M c11, .agg #[.int .i64 a, .int .i64 b, .int .i64 x, .int .i64 d], Value.slice A7 rs.length c7, .slice (some ⟨g12, o12, none⟩) rs.length c12, Value.slice A11 M c11, .slice (some ⟨g13, o13, none⟩) M c13, .agg #[.int .i64 a, .int .i64 b, .int .i64 x, .int .i64 d], Value.slice A8 rs.length c8, .slice (some ⟨g14, o14, none⟩) rs.length c14, Value.slice A11 M c11, .slice (some ⟨g15, o15, none⟩) M c15, .slice (some ⟨g12, o12, none⟩) rs.length c12, .int .i64 ↑rs.length, Value.slice A6 rs.length c6, .int .i64 ↑rs.length, .bool false, .bool false, .slice (some ⟨g13, o13, none⟩) M c13, .int .i64 ↑M, Value.slice A11 M c11, .int .i64 ↑M, .bool false, .bool false, .bool false, .slice (some ⟨g14, o14, none⟩) rs.length c14, .int .i64 ↑rs.length, Value.slice A6 rs.length c6, .int .i64 ↑rs.length, .bool false, .bool false, .bool false, .slice (some ⟨g15, o15, none⟩) M c15, .int .i64 ↑M, Value.slice A11 M c11, .int .i64 ↑M, .bool false, .bool false, .bool false, .slice (some ⟨g13, o13, none⟩) M c13, .pointer (some ⟨g13, o13, none⟩), .agg #[.int .i64 a, .int .i64 b, .int .i64 x, .int .i64 d], .agg #[.int .i64 a, .int .i64 b, .int .i64 x, .int .i64 d], .bool false, .bool false, .bool false, .slice (some ⟨g15, o15, none⟩) M c15, .pointer (some ⟨g15, o15, none⟩), .agg #[.int .i64 a, .int .i64 b, .int .i64 x, .int .i64 d], .agg #[.int .i64 a, .int .i64 b, .int .i64 x, .int .i64 d], .bool false, .bool false, Value.slice A6 rs.length c6, .int .i64 ↑rs.length, .int .i64 ↑j, .bool true, .int .i64 ↑j, v99, v100, v101, v102, v103, v104, v105, v106, v107, u108, u109, u110, u111, u112, u113, u114, u115, u116, u117, u118, u119, u120, u121], []⟩ ∧
              Hid (L 0 = true → v99 = .slice (some ⟨g12, o12, none⟩) rs.length c12) ∧ Hid (L 1 = true → v100 = .int .i64 ↑j) ∧ Hid (L 2 = true → v101 = .pointer (some ⟨g12, o12 + j * 4, none⟩)) ∧ Hid (L 3 = true → v102 = .agg #[.int .i64 p, .int .i64 q, .int .i64 s, .int .i64 t]) ∧ Hid (L 4 = true → v103 = .slice (some ⟨g13, o13, none⟩) M c13) ∧ Hid (L 5 = true → v104 = .int .i64 ↑j) ∧ Hid (L 6 = true → v105 = .int .i64 (↑j + 1)) ∧ Hid (L 7 = true → v106 = .pointer (some ⟨g13, o13 + (j + 1) * 4, none⟩)) ∧ Hid (L 8 = true → v107 = .agg #[.int .i64 p, .int .i64 q, .int .i64 s, .int .i64 t]) ∧ (Below wr.heap.size wr u)) ?_ ?_ ?_
          · exact ⟨_, _, _, _, _, _, _, _, _, rfl, (Lib.hid fun h => by cases h), (Lib.hid fun h => by cases h), (Lib.hid fun h => by cases h), (Lib.hid fun h => by cases h), (Lib.hid fun h => by cases h), (Lib.hid fun h => by cases h), (Lib.hid fun h => by cases h), (Lib.hid fun h => by cases h), (Lib.hid fun h => by cases h), hW⟩
          · clear hW
            intro L a' u i hi1 hi2 hI hL hd
            obtain ⟨v99, v100, v101, v102, v103, v104, v105, v106, v107, rfl, k0, k1, k2, k3, k4, k5, k6, k7, k8, hW⟩ := hI
            obtain rfl | rfl | rfl | rfl | rfl | rfl | rfl | rfl | rfl := (show ∀ i : Nat, 0 ≤ i → i < 9 → (i = 0 ∨ i = 1 ∨ i = 2 ∨ i = 3 ∨ i = 4 ∨ i = 5 ∨ i = 6 ∨ i = 7 ∨ i = 8) by omega) i hi1 hi2
            · -- operation 0
              have HW := Lib.hid hW
              clear hW hL hd hi1 hi2
              refine wpOp_step rfl fun K hK => ?_
              go_simp
              refine hK _ _ ⟨_, _, _, _, _, _, _, _, _, rfl, (Lib.hid fun _ => rfl), k1, k2, k3, k4, k5, k6, k7, k8, HW.out⟩
            · -- operation 1
              have HW := Lib.hid hW
              clear hW hL hd hi1 hi2
              refine wpOp_step rfl fun K hK => ?_
              go_simp
              refine hK _ _ ⟨_, _, _, _, _, _, _, _, _, rfl, k0, (Lib.hid fun _ => rfl), k2, k3, k4, k5, k6, k7, k8, HW.out⟩
            · -- operation 2
              obtain rfl := k0.out (hd 0 (by decide))
              obtain rfl := k1.out (hd 1 (by decide))
              have HW := Lib.hid hW
              clear hW hL hd hi1 hi2
              refine wpOp_step rfl fun K hK => ?_
              go_simp
              refine hK _ _ ⟨_, _, _, _, _, _, _, _, _, rfl, k0, k1, (Lib.hid fun _ => rfl), k3, k4, k5, k6, k7, k8, HW.out⟩
            · -- operation 3
              obtain rfl := k2.out (hd 2 (by decide))
              obtain ⟨c0, c1, c2, c3⟩ := (HG.out.1.by hW).2
              have HW := Lib.hid hW
              clear hW hL hd hi1 hi2
              refine wpOp_step rfl fun K hK => ?_
              go_simp
              refine hK _ _ ⟨_, _, _, _, _, _, _, _, _, rfl, k0, k1, k2, (Lib.hid fun _ => rfl), k4, k5, k6, k7, k8, HW.out⟩
            · -- operation 4
              have HW := Lib.hid hW
              clear hW hL hd hi1 hi2
              refine wpOp_step rfl fun K hK => ?_
              go_simp
              refine hK _ _ ⟨_, _, _, _, _, _, _, _, _, rfl, k0, k1, k2, k3, (Lib.hid fun _ => rfl), k5, k6, k7, k8, HW.out⟩
            · -- operation 5
              have HW := Lib.hid hW
              clear hW hL hd hi1 hi2
              refine wpOp_step rfl fun K hK => ?_
              go_simp
              refine hK _ _ ⟨_, _, _, _, _, _, _, _, _, rfl, k0, k1, k2, k3, k4, (Lib.hid fun _ => rfl), k6, k7, k8, HW.out⟩
            · -- operation 6
              obtain rfl := k5.out (hd 5 (by decide))
              have HW := Lib.hid hW
              clear hW hL hd hi1 hi2
              refine wpOp_step rfl fun K hK => ?_
              go_simp
              refine hK _ _ ⟨_, _, _, _, _, _, _, _, _, rfl, k0, k1, k2, k3, k4, k5, (Lib.hid fun _ => rfl), k7, k8, HW.out⟩
            · -- operation 7
              obtain rfl := k4.out (hd 4 (by decide))
              obtain rfl := k6.out (hd 6 (by decide))
              have HW := Lib.hid hW
              clear hW hL hd hi1 hi2
              refine wpOp_step rfl fun K hK => ?_
              go_simp
              refine hK _ _ ⟨_, _, _, _, _, _, _, _, _, rfl, k0, k1, k2, k3, k4, k5, k6, (Lib.hid fun _ => rfl), k8, HW.out⟩
            · -- operation 8
              obtain rfl := k7.out (hd 7 (by decide))
              obtain ⟨c0, c1, c2, c3⟩ := (HG.out.2.1.by hW).2
              have HW := Lib.hid hW
              clear hW hL hd hi1 hi2
              refine wpOp_step rfl fun K hK => ?_
              go_simp
              refine hK _ _ ⟨_, _, _, _, _, _, _, _, _, rfl, k0, k1, k2, k3, k4, k5, k6, k7, (Lib.hid fun _ => rfl), HW.out⟩
          clear hW
          clear u
          intro L a' u hI hall
          obtain ⟨v99, v100, v101, v102, v103, v104, v105, v106, v107, rfl, k0, k1, k2, k3, k4, k5, k6, k7, k8, hW⟩ := hI
          obtain rfl := k0.out (hall 0 (by decide))
          obtain rfl := k1.out (hall 1 (by decide))
          obtain rfl := k2.out (hall 2 (by decide))
          obtain rfl := k3.out (hall 3 (by decide))
          obtain rfl := k4.out (hall 4 (by decide))
          obtain rfl := k5.out (hall 5 (by decide))
          obtain rfl := k6.out (hall 6 (by decide))
          obtain rfl := k7.out (hall 7 (by decide))
          obtain rfl := k8.out (hall 8 (by decide))
          clear k0 k1 k2 k3 k4 k5 k6 k7 k8 hall L
          -- operation 9 alone
          refine from_one' hTab 9 (by kernel_rfl) ?_
          have HW := Lib.hid hW
          clear hW
          refine wpOp_step rfl fun K hK => ?_
          go_simp
          refine hK _ _ ?_
          clear hK K
          have hW := HW.out
          clear HW
          -- operation 10 alone
          refine from_one' hTab 10 (by kernel_rfl) ?_
          have HW := Lib.hid hW
          clear hW
          refine wpOp_step rfl fun K hK => ?_
          go_simp
          refine hK _ _ ?_
          clear hK K
          have hW := HW.out
          clear HW
          -- operations 11 to 19
          refine from_block' hTab 11 20 (by decide) (by kernel_rfl)
            (fun L a' u => ∃ v110 v111 v112 v113 v114 v115 v116 v117 v118 : Value, a' = ⟨#[Value.slice A n c, Value.slice A1 n1 c1, undef, undef, u4, .pointer (some ⟨g5, 0, none⟩), Value.slice A6 rs.length c6, Value.slice A7 rs.length c7, Value.slice A8 rs.length c8, undef, u10, Value.slice A11 M c11, .slice (some ⟨g12, o12, none⟩) rs.length c12, .slice (some ⟨g13, o13, none⟩) M c13, .slice (some ⟨g14, o14, none⟩) rs.length c14, .slice (some ⟨g15, o15, none⟩) M c15, .int .i64 ↑j, Value.slice A n c, .agg #[.int .i64 a, .int .i64 b, .int .i64 x, .int .i64 d], Value.slice A1 n1 c1, Value.slice A6 rs.length c6, .slice (some ⟨w3.heap.size, 0, none⟩) 0 0, .slice (some ⟨w3.heap.size + 1, 0, none⟩) 0 0, Value.slice A6 rs.length c6, .int .i64 ↑rs.length, .int .i64 ↑rs.length, .bool false, u27, u28, u29, u30, u31, u32, u33, u34, u35, u36, u37, u38, u39, .agg #[.int .i64 a, .int .i64 b, .int .i64 x, .int .i64 d], v41, Value.slice A6 rs.length c6, Value.slice A11 M c11, .agg #[.int .i64 a, .int .i64 b, .int .i64 x, .int .i64 d], Value.slice A7 rs.length c7, .slice (some ⟨g12, o12, none⟩) rs.length c12, Value.slice A11 M c11, .slice (some ⟨g13, o13, none⟩) M c13, .agg #[.int .i64 a, .int .i64 b, .int .i64 x, .int .i64 d], Value.slice A8 rs.length c8, .slice (some ⟨g14, o14, none⟩) rs.length c14, Value.slice A11 M c11, .slice (some ⟨g15, o15, none⟩) M c15, .slice (some ⟨g12, o12, none⟩) rs.length c12, .int .i64 ↑rs.length, Value.slice A6 rs.length c6, .int .i64 ↑rs.length, .bool false, .bool false, .slice (some ⟨g13, o13, none⟩) M c13, .int .i64 ↑M, Value.slice A11 M c11, .int .i64 ↑M, .bool false, .bool false, .bool false, .slice (some ⟨g14, o14, none⟩) rs.length c14, .int .i64 ↑rs.length, Value.slice A6 rs.length c6, .int .i64 ↑rs.length, .bool false, .bool false, .bool false, .slice (some ⟨g15, o15, none⟩) M c15, .int .i64 ↑M, Value.slice A11 M c11, .int .i64 ↑M, .bool false, .bool false, .bool false, .slice (some ⟨g13, o13, none⟩) M c13, .pointer (some ⟨g13, o13, none⟩), .agg #[.int .i64 a, .int .i64 b, .int .i64 x, .int .i64 d], .agg #[.int .i64 a, .int .i64 b, .int .i64 x, .int .i64 d], .bool false, .bool false, .bool false, .slice (some ⟨g15, o15, none⟩) M c15, .pointer (some ⟨g15, o15, none⟩), .agg #[.int .i64 a, .int .i64 b, .int .i64 x, .int .i64 d], .agg #[.int .i64 a, .int .i64 b, .int .i64 x, .int .i64 d], .bool false, .bool false, Value.slice A6 rs.length c6, .int .i64 ↑rs.length, .int .i64 ↑j, .bool true, .int .i64 ↑j, .slice (some ⟨g12, o12, none⟩) rs.length c12, .int .i64 ↑j, .pointer (some ⟨g12, o12 + j * 4, none⟩), .agg #[.int .i64 p, .int .i64 q, .int .i64 s, .int .i64 t], .slice (some ⟨g13, o13, none⟩) M c13, .int .i64 ↑j, .int .i64 (↑j + 1), .pointer (some ⟨g13, o13 + (j + 1) * 4, none⟩), .agg #[.int .i64 p, .int .i64 q, .int .i64 s, .int .i64 t], .bool false, .bool false, v110, v111, v112, v113, v114, v115, v116, v117, v118, u119, u120, u121], []⟩ ∧
              Hid (L 11 = true → v110 = .slice (some ⟨g14, o14, none⟩) rs.length c14) ∧ Hid (L 12 = true → v111 = .int .i64 ↑j) ∧ Hid (L 13 = true → v112 = .pointer (some ⟨g14, o14 + j * 4, none⟩)) ∧ Hid (L 14 = true → v113 = .agg #[.int .i64 p', .int .i64 q', .int .i64 s', .int .i64 t']) ∧ Hid (L 15 = true → v114 = .slice (some ⟨g15, o15, none⟩) M c15) ∧ Hid (L 16 = true → v115 = .int .i64 ↑j) ∧ Hid (L 17 = true → v116 = .int .i64 (↑j + 1)) ∧ Hid (L 18 = true → v117 = .pointer (some ⟨g15, o15 + (j + 1) * 4, none⟩)) ∧ Hid (L 19 = true → v118 = .agg #[.int .i64 p', .int .i64 q', .int .i64 s', .int .i64 t']) ∧ (Below wr.heap.size wr u)) ?_ ?_ ?_
          · exact ⟨_, _, _, _, _, _, _, _, _, rfl, (Lib.hid fun h => by cases h), (Lib.hid fun h => by cases h), (Lib.hid fun h => by cases h), (Lib.hid fun h => by cases h), (Lib.hid fun h => by cases h), (Lib.hid fun h => by cases h), (Lib.hid fun h => by cases h), (Lib.hid fun h => by cases h), (Lib.hid fun h => by cases h), hW⟩
          · clear hW
            intro L a' u i hi1 hi2 hI hL hd
            obtain ⟨v110, v111, v112, v113, v114, v115, v116, v117, v118, rfl, k11, k12, k13, k14, k15, k16, k17, k18, k19, hW⟩ := hI
            obtain rfl | rfl | rfl | rfl | rfl | rfl | rfl | rfl | rfl := (show ∀ i : Nat, 11 ≤ i → i < 20 → (i = 11 ∨ i = 12 ∨ i = 13 ∨ i = 14 ∨ i = 15 ∨ i = 16 ∨ i = 17 ∨ i = 18 ∨ i = 19) by omega) i hi1 hi2
            · -- operation 11
              have HW := Lib.hid hW
              clear hW hL hd hi1 hi2
              refine wpOp_step rfl fun K hK => ?_
              go_simp
              refine hK _ _ ⟨_, _, _, _, _, _, _, _, _, rfl, (Lib.hid fun _ => rfl), k12, k13, k14, k15, k16, k17, k18, k19, HW.out⟩
            · -- operation 12
              have HW := Lib.hid hW
              clear hW hL hd hi1 hi2
              refine wpOp_step rfl fun K hK => ?_
              go_simp
              refine hK _ _ ⟨_, _, _, _, _, _, _, _, _, rfl, k11, (Lib.hid fun _ => rfl), k13, k14, k15, k16, k17, k18, k19, HW.out⟩
            · -- operation 13
              obtain rfl := k11.out (hd 11 (by decide))
              obtain rfl := k12.out (hd 12 (by decide))
              have HW := Lib.hid hW
              clear hW hL hd hi1 hi2
              refine wpOp_step rfl fun K hK => ?_
              go_simp
              refine hK _ _ ⟨_, _, _, _, _, _, _, _, _, rfl, k11, k12, (Lib.hid fun _ => rfl), k14, k15, k16, k17, k18, k19, HW.out⟩
            · -- operation 14
              obtain rfl := k13.out (hd 13 (by decide))
              obtain ⟨c0, c1, c2, c3⟩ := (HG.out.2.2.1.by hW).2
              have HW := Lib.hid hW
              clear hW hL hd hi1 hi2
              refine wpOp_step rfl fun K hK => ?_
              go_simp
              refine hK _ _ ⟨_, _, _, _, _, _, _, _, _, rfl, k11, k12, k13, (Lib.hid fun _ => rfl), k15, k16, k17, k18, k19, HW.out⟩
            · -- operation 15
              have HW := Lib.hid hW
              clear hW hL hd hi1 hi2
              refine wpOp_step rfl fun K hK => ?_
              go_simp
              refine hK _ _ ⟨_, _, _, _, _, _, _, _, _, rfl, k11, k12, k13, k14, (Lib.hid fun _ => rfl), k16, k17, k18, k19, HW.out⟩
            · -- operation 16
              have HW := Lib.hid hW
              clear hW hL hd hi1 hi2
              refine wpOp_step rfl fun K hK => ?_
              go_simp
              refine hK _ _ ⟨_, _, _, _, _, _, _, _, _, rfl, k11, k12, k13, k14, k15, (Lib.hid fun _ => rfl), k17, k18, k19, HW.out⟩
            · -- operation 17
              obtain rfl := k16.out (hd 16 (by decide))
              have HW := Lib.hid hW
              clear hW hL hd hi1 hi2
              refine wpOp_step rfl fun K hK => ?_
              go_simp
              refine hK _ _ ⟨_, _, _, _, _, _, _, _, _, rfl, k11, k12, k13, k14, k15, k16, (Lib.hid fun _ => rfl), k18, k19, HW.out⟩
            · -- operation 18
              obtain rfl := k15.out (hd 15 (by decide))
              obtain rfl := k17.out (hd 17 (by decide))
              have HW := Lib.hid hW
              clear hW hL hd hi1 hi2
              refine wpOp_step rfl fun K hK => ?_
              go_simp
              refine hK _ _ ⟨_, _, _, _, _, _, _, _, _, rfl, k11, k12, k13, k14, k15, k16, k17, (Lib.hid fun _ => rfl), k19, HW.out⟩
            · -- operation 19
              obtain rfl := k18.out (hd 18 (by decide))
              obtain ⟨c0, c1, c2, c3⟩ := (HG.out.2.2.2.by hW).2
              have HW := Lib.hid hW
              clear hW hL hd hi1 hi2
              refine wpOp_step rfl fun K hK => ?_
              go_simp
              refine hK _ _ ⟨_, _, _, _, _, _, _, _, _, rfl, k11, k12, k13, k14, k15, k16, k17, k18, (Lib.hid fun _ => rfl), HW.out⟩
          clear hW
          clear u
          intro L a' u hI hall
          obtain ⟨v110, v111, v112, v113, v114, v115, v116, v117, v118, rfl, k11, k12, k13, k14, k15, k16, k17, k18, k19, hW⟩ := hI
          obtain rfl := k11.out (hall 11 (by decide))
          obtain rfl := k12.out (hall 12 (by decide))
          obtain rfl := k13.out (hall 13 (by decide))
          obtain rfl := k14.out (hall 14 (by decide))
          obtain rfl := k15.out (hall 15 (by decide))
          obtain rfl := k16.out (hall 16 (by decide))
          obtain rfl := k17.out (hall 17 (by decide))
          obtain rfl := k18.out (hall 18 (by decide))
          obtain rfl := k19.out (hall 19 (by decide))
          clear k11 k12 k13 k14 k15 k16 k17 k18 k19 hall L
          -- operation 20 alone
          refine from_one' hTab 20 (by kernel_rfl) ?_
          have HW := Lib.hid hW
          clear hW
          refine wpOp_step rfl fun K hK => ?_
          go_simp
          refine hK _ _ ?_
          clear hK K
          have hW := HW.out
          clear HW
          -- operation 21 alone
          refine from_one' hTab 21 (by kernel_rfl) ?_
          have HW := Lib.hid hW
          clear hW
          refine wpOp_step rfl fun K hK => ?_
          go_simp
          refine hK _ _ ?_
          clear hK K
          have hW := HW.out
          clear HW
          refine from_end' hTab 22 (by kernel_rfl) ?_
          clear hTab
          have HW := Lib.hid hW
          clear hW
          go_wp2
          go_roundw
          case rel => exact ⟨j + 1, by omega, by go_num, HBL.out.trans (HW.out.mono HBL.out.size)⟩
          case measure => simp [intOf]; omega
        · obtain rfl : j = rs.length := by omega
          have HBL := Lib.hid hbel
          clear hbel
          go_wp2
          go_ret
          exact ⟨rfl, HB9.out.trans (HBL.out.mono HB9.out.size)⟩
end Go.Proofs.Ytenhhkeajhkfoaa
