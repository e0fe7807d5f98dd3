/- The contract of the laws' function compared. Conditions: at most 2097152 steps. -/
import Derived.Test.YtenhhkeajhkfoaaScript
import Derived.Test.YtenhhkeajhkfoaaTail
namespace Go.Proofs.Ytenhhkeajhkfoaa
open Go.RowKit

set_option maxHeartbeats 4000000 in
theorem compared_any (a b c d e f g h : Int) (A1 A2 : Option Addr) (c1 c2 : Nat) (l m : List S) (fn : FuncId) (cap : Array Value) (w : World) (h1 : Steps w A1 l) (h2 : Steps w A2 m) (hn : l.length ≤ 2097152) (hlm : m.length = l.length) (hcf : ∀ (args : Array Value) (u : World), (callFunc fn args).run Try.prog u = .ok (.enter fn args) u)
    (hf : ∀ u, Below w.heap.size w u → ∀ i, i < l.length → ∀ p q s t p' q' s' t', runS ⟨a, b, c, d⟩ (l.take (i + 1)) = ⟨p, q, s, t⟩ → runS ⟨e, f, g, h⟩ (m.take (i + 1)) = ⟨p', q', s', t'⟩ →
      Calls Try.prog fn (#[.agg #[.int .i64 p, .int .i64 q, .int .i64 s, .int .i64 t], .agg #[.int .i64 p', .int .i64 q', .int .i64 s', .int .i64 t']] ++ cap) u fun x u' => x = .returned (.bool true) ∧ Below u.heap.size u u') :
    Calls Try.prog 20 #[.agg #[.int .i64 a, .int .i64 b, .int .i64 c, .int .i64 d], .agg #[.int .i64 e, .int .i64 f, .int .i64 g, .int .i64 h], .slice A1 l.length c1, .slice A2 m.length c2, .func (.func fn) #[] cap] w fun x w' => x = .returned (.bool true) ∧ Below w.heap.size w w' := by
  have H1 := Lib.hid h1
  have H2 := Lib.hid h2
  have HF := Lib.hid hf
  have HLM := Lib.hid hlm
  clear h1 h2 hf hlm
  have W1' := fun u hu => walk_any a b c d A1 c1 l u hu hn
  have W2' := fun u hu => walk_any e f g h A2 c2 m u hu (by rw [HLM.out]; exact hn)
  have HW1 := Lib.hid W1'
  have HW2 := Lib.hid W2'
  clear W1' W2'
  go_enter Try.func20, Try.ntmps20
  go_wp2_with fail
  refine wp_region_tail [[], [], [0, 1], [], [], [0, 1, 2, 3, 4], [0, 1, 2, 3, 4, 5], [0, 1, 2, 3, 4, 5, 6]] (by kernel_rfl) (by kernel_rfl) 6 rfl (by decide) (by decide) (by kernel_rfl)
    (fun L a' u => ∃ v14 v15 v16 v17 v18 v19 : Value, a' = ⟨#[.agg #[.int .i64 a, .int .i64 b, .int .i64 c, .int .i64 d], .agg #[.int .i64 e, .int .i64 f, .int .i64 g, .int .i64 h], .slice A1 l.length c1, .slice A2 m.length c2, .func (.func fn) #[] cap, .pointer (some ⟨w.heap.size, 0, none⟩), .pointer (some ⟨w.heap.size + 1, 0, none⟩), undef, undef, undef, .bool false, undef, undef, undef, v14, v15, v16, v17, v18, v19, undef, undef, undef, undef, undef, undef, undef, undef, undef, undef, undef, undef, undef, undef, undef, undef, undef, undef, undef, undef, undef, undef, undef, undef, undef, undef, undef, undef, undef, undef, undef, undef, undef, undef, undef, undef], []⟩ ∧
      Hid (L 0 = true → v14 = .agg #[.int .i64 a, .int .i64 b, .int .i64 c, .int .i64 d]) ∧ Hid (L 1 = true → v15 = .slice A1 l.length c1) ∧ Hid (L 2 = true → Own u w.heap.size v16 (runsS ⟨a, b, c, d⟩ l l.length)) ∧ Hid (L 3 = true → v17 = .agg #[.int .i64 e, .int .i64 f, .int .i64 g, .int .i64 h]) ∧ Hid (L 4 = true → v18 = .slice A2 m.length c2) ∧ Hid (L 5 = true → Own u w.heap.size v19 (runsS ⟨e, f, g, h⟩ m m.length)) ∧ (Ats [(w.heap.size, 25, [.int .i64 a, .int .i64 b, .int .i64 c, .int .i64 d]), (w.heap.size + 1, 25, [.int .i64 e, .int .i64 f, .int .i64 g, .int .i64 h])] w u)) ?_ ?_ ?_
  · refine ⟨_, _, _, _, _, _, rfl, (Lib.hid fun h => by cases h), (Lib.hid fun h => by cases h), (Lib.hid fun h => by cases h), (Lib.hid fun h => by cases h), (Lib.hid fun h => by cases h), (Lib.hid fun h => by cases h), ?_⟩
    refine Ats.cons ?_ (Ats.cons ?_ (Ats.nil ?_))
    · (repeat first | exact At.new' _ _ _ (by first | rfl | (simp only [size_alloc])) | refine At.drew ?_ | refine At.alloc ?_ _)
    · (repeat first | exact At.new' _ _ _ (by first | rfl | (simp only [size_alloc])) | refine At.drew ?_ | refine At.alloc ?_ _)
    · (repeat first | exact Below.refl _ _ | refine Below.drew ?_ | refine Below.alloc ?_ (by first | exact Nat.le_refl _ | (simp only [size_alloc]; omega)) _)
  · intro L a' u i hi hI hL hd
    obtain ⟨v14, v15, v16, v17, v18, v19, rfl, k0, k1, k2, k3, k4, k5, hW⟩ := hI
    obtain rfl | rfl | rfl | rfl | rfl | rfl : i = 0 ∨ i = 1 ∨ i = 2 ∨ i = 3 ∨ i = 4 ∨ i = 5 := by omega
    · -- operation 0
      obtain ⟨c0, c1, c2, c3⟩ := (hW.nth 0 rfl).four.1
      have HW := Lib.hid hW
      clear hW hL hd
      refine wpOp_step rfl fun K hK => ?_
      go_simp
      refine hK _ _ ⟨_, _, _, _, _, _, rfl, (Lib.hid fun _ => rfl), k1, k2, k3, k4, k5, HW.out⟩
    · -- operation 1
      have HW := Lib.hid hW
      clear hW hL hd
      refine wpOp_step rfl fun K hK => ?_
      go_simp
      refine hK _ _ ⟨_, _, _, _, _, _, rfl, k0, (Lib.hid fun _ => rfl), k2, k3, k4, k5, HW.out⟩
    · -- operation 2
      obtain rfl := k0.out (hd 0 (by decide))
      obtain rfl := k1.out (hd 1 (by decide))
      have HW := Lib.hid hW
      clear hW hL hd
      refine wpOp_step rfl fun K hK => ?_
      go_simp
      go_at_call 15
      refine (HW1.out _ (H1.out.by HW.out.2)).mono ?_
      rintro _ w' ⟨v, rfl, ho, hb⟩
      refine hK _ _ ⟨_, _, _, _, _, _, rfl, k0, k1, (Lib.hid fun _ => ho.mono HW.out.2.size), k3, k4, (Lib.hid fun hl => (k5.out hl).by hb), HW.out.by hb⟩
    · -- operation 3
      obtain ⟨c0, c1, c2, c3⟩ := (hW.nth 1 rfl).four.1
      have HW := Lib.hid hW
      clear hW hL hd
      refine wpOp_step rfl fun K hK => ?_
      go_simp
      refine hK _ _ ⟨_, _, _, _, _, _, rfl, k0, k1, k2, (Lib.hid fun _ => rfl), k4, k5, HW.out⟩
    · -- operation 4
      have HW := Lib.hid hW
      clear hW hL hd
      refine wpOp_step rfl fun K hK => ?_
      go_simp
      refine hK _ _ ⟨_, _, _, _, _, _, rfl, k0, k1, k2, k3, (Lib.hid fun _ => rfl), k5, HW.out⟩
    · -- operation 5
      obtain rfl := k3.out (hd 3 (by decide))
      obtain rfl := k4.out (hd 4 (by decide))
      have HW := Lib.hid hW
      clear hW hL hd
      refine wpOp_step rfl fun K hK => ?_
      go_simp
      go_at_call 15
      refine (HW2.out _ (H2.out.by HW.out.2)).mono ?_
      rintro _ w' ⟨v, rfl, ho, hb⟩
      refine hK _ _ ⟨_, _, _, _, _, _, rfl, k0, k1, (Lib.hid fun hl => (k2.out hl).by hb), k3, k4, (Lib.hid fun _ => ho.mono HW.out.2.size), HW.out.by hb⟩
  intro L a' u hI hall
  obtain ⟨v14, v15, v16, v17, v18, v19, rfl, k0, k1, k2, k3, k4, k5, hW⟩ := hI
  obtain rfl := k0.out (hall 0 (by decide))
  obtain rfl := k1.out (hall 1 (by decide))
  have x2 := k2.out (hall 2 (by decide))
  obtain rfl := k3.out (hall 3 (by decide))
  obtain rfl := k4.out (hall 4 (by decide))
  have x5 := k5.out (hall 5 (by decide))
  clear k0 k1 k2 k3 k4 k5 hall
  show wpOps _ _ _ [6, 7] _ _
  obtain ⟨A11, c11, rfl, hR11, -⟩ := x2.form'
  obtain ⟨A12, c12, rfl, hR12, -⟩ := x5.form'
  rw [runsS_length, runsS_length, HLM.out]
  have HR11 := Lib.hid hR11
  have HR12 := Lib.hid hR12
  have HB := Lib.hid hW.2
  clear hW x2 x5 hR11 hR12 HW1 HW2 H1 H2
  obtain ⟨w3, hw3⟩ : ∃ w3, w3 = u := ⟨_, rfl⟩
  rw [← hw3] at HR11 HR12 HB ⊢
  clear hw3
  refine wpOps_tail 6 _ rfl rfl ?_
  simp only [List.drop_succ_cons, List.drop_zero]
  go_wp2
  go_loopw [41] (fun i wr => ∃ k : Nat, k ≤ l.length ∧ i = .int .i64 k ∧ Below w3.heap.size w3 wr) (fun i _ => l.length - (intOf i).toNat)
  case atStart => exact ⟨0, Nat.zero_le _, rfl, Below.refl _ _⟩
  case round =>
    obtain ⟨k, hk, rfl, hbel⟩ := hrel
    have HB2 := Lib.hid hbel
    clear hbel
    by_cases hlt : k < l.length
    · obtain ⟨g11, o11, rfl, hg11⟩ := HR11.out.addr (by rw [runsS_length]; omega)
      obtain ⟨g12, o12, rfl, hg12⟩ := HR12.out.addr (by rw [runsS_length, HLM.out]; omega)
      obtain ⟨⟨p, q, s, t⟩, hv1⟩ : ∃ v : R, runS ⟨a, b, c, d⟩ (l.take (k + 1)) = v := ⟨_, rfl⟩
      obtain ⟨⟨p', q', s', t'⟩, hv2⟩ : ∃ v : R, runS ⟨e, f, g, h⟩ (m.take (k + 1)) = v := ⟨_, rfl⟩
      have HC1 := Lib.hid ((runsS_get ⟨a, b, c, d⟩ l l.length k hlt).trans hv1)
      have HC2 := Lib.hid ((runsS_get ⟨e, f, g, h⟩ m m.length k (by rw [HLM.out]; exact hlt)).trans hv2)
      have HFF := Lib.hid (fun u hu => HF.out u hu k hlt p q s t p' q' s' t' hv1 hv2)
      clear hv1 hv2 hg11 hg12
      go_wp2_with fail
      refine wp_region_tail [[], [], [], [1, 2], [1, 2, 3], [], [], [5, 6], [5, 6, 7], [0, 1, 2, 3, 4, 5, 6, 7, 8], [0, 1, 2, 3, 4, 5, 6, 7, 8, 9]] (by kernel_rfl) (by kernel_rfl) 11 rfl (by decide) (by decide) (by kernel_rfl)
        (fun L a' u => ∃ v44 v45 v46 v47 v48 v49 v50 v51 v52 v53 v54 : Value, a' = ⟨#[Value.agg #[Value.int IntKind.i64 a, Value.int IntKind.i64 b, Value.int IntKind.i64 c, Value.int IntKind.i64 d], Value.agg #[Value.int IntKind.i64 e, Value.int IntKind.i64 f, Value.int IntKind.i64 g, Value.int IntKind.i64 h], Value.slice A1 l.length c1, Value.slice A2 l.length c2, Value.func (Fn.func fn) #[] cap, Value.pointer (some { block := w.heap.size, off := 0 }), Value.pointer (some { block := w.heap.size + 1, off := 0 }), undef, undef, undef, u10, Value.slice (some { block := g11, off := o11 }) l.length c11, Value.slice (some { block := g12, off := o12 }) l.length c12, Value.int IntKind.i64 ↑k, Value.agg #[Value.int IntKind.i64 a, Value.int IntKind.i64 b, Value.int IntKind.i64 c, Value.int IntKind.i64 d], Value.slice A1 l.length c1, Value.slice (some { block := g11, off := o11 }) l.length c11, Value.agg #[Value.int IntKind.i64 e, Value.int IntKind.i64 f, Value.int IntKind.i64 g, Value.int IntKind.i64 h], Value.slice A2 l.length c2, Value.slice (some { block := g12, off := o12 }) l.length c12, Value.slice (some { block := g11, off := o11 }) l.length c11, Value.int IntKind.i64 ↑l.length, Value.slice A1 l.length c1, Value.int IntKind.i64 ↑l.length, Value.bool false, Value.bool false, Value.slice (some { block := g12, off := o12 }) l.length c12, Value.int IntKind.i64 ↑l.length, Value.slice A2 l.length c2, Value.int IntKind.i64 ↑l.length, Value.bool false, Value.bool false, Value.bool false, Value.slice (some { block := g11, off := o11 }) l.length c11, Value.int IntKind.i64 ↑l.length, Value.slice (some { block := g12, off := o12 }) l.length c12, Value.int IntKind.i64 ↑l.length, Value.bool false, Value.bool false, Value.slice (some { block := g11, off := o11 }) l.length c11, Value.int IntKind.i64 ↑l.length, Value.int IntKind.i64 ↑k, Value.bool true, Value.int IntKind.i64 ↑k, v44, v45, v46, v47, v48, v49, v50, v51, v52, v53, v54, u55], []⟩ ∧
          Hid (L 0 = true → v44 = .func (.func fn) #[] cap) ∧ Hid (L 1 = true → v45 = .slice (some ⟨g11, o11, none⟩) l.length c11) ∧ Hid (L 2 = true → v46 = .int .i64 ↑k) ∧ Hid (L 3 = true → v47 = .pointer (some ⟨g11, o11 + k * 4, none⟩)) ∧ Hid (L 4 = true → v48 = .agg #[.int .i64 p, .int .i64 q, .int .i64 s, .int .i64 t]) ∧ Hid (L 5 = true → v49 = .slice (some ⟨g12, o12, none⟩) l.length c12) ∧ Hid (L 6 = true → v50 = .int .i64 ↑k) ∧ Hid (L 7 = true → v51 = .pointer (some ⟨g12, o12 + k * 4, none⟩)) ∧ Hid (L 8 = true → v52 = .agg #[.int .i64 p', .int .i64 q', .int .i64 s', .int .i64 t']) ∧ Hid (L 9 = true → v53 = .bool true) ∧ Hid (L 10 = true → v54 = .bool false) ∧ (Below w3.heap.size w3 u)) ?_ ?_ ?_
      · refine ⟨_, _, _, _, _, _, _, _, _, _, _, rfl, (Lib.hid fun h => by cases h), (Lib.hid fun h => by cases h), (Lib.hid fun h => by cases h), (Lib.hid fun h => by cases h), (Lib.hid fun h => by cases h), (Lib.hid fun h => by cases h), (Lib.hid fun h => by cases h), (Lib.hid fun h => by cases h), (Lib.hid fun h => by cases h), (Lib.hid fun h => by cases h), (Lib.hid fun h => by cases h), ?_⟩
        exact HB2.out.drew
      · intro L a' u i hi hI hL hd
        obtain ⟨v44, v45, v46, v47, v48, v49, v50, v51, v52, v53, v54, rfl, k0, k1, k2, k3, k4, k5, k6, k7, k8, k9, k10, hW⟩ := hI
        obtain rfl | rfl | rfl | rfl | rfl | rfl | rfl | rfl | rfl | rfl | rfl : i = 0 ∨ i = 1 ∨ i = 2 ∨ i = 3 ∨ i = 4 ∨ i = 5 ∨ i = 6 ∨ i = 7 ∨ i = 8 ∨ i = 9 ∨ i = 10 := by omega
        · -- operation 0
          have HW := Lib.hid hW
          clear hW hL hd
          refine wpOp_step rfl fun K hK => ?_
          go_simp
          refine hK _ _ ⟨_, _, _, _, _, _, _, _, _, _, _, rfl, (Lib.hid fun _ => rfl), k1, k2, k3, k4, k5, k6, k7, k8, k9, k10, HW.out⟩
        · -- operation 1
          have HW := Lib.hid hW
          clear hW hL hd
          refine wpOp_step rfl fun K hK => ?_
          go_simp
          refine hK _ _ ⟨_, _, _, _, _, _, _, _, _, _, _, rfl, k0, (Lib.hid fun _ => rfl), k2, k3, k4, k5, k6, k7, k8, k9, k10, HW.out⟩
        · -- operation 2
          have HW := Lib.hid hW
          clear hW hL hd
          refine wpOp_step rfl fun K hK => ?_
          go_simp
          refine hK _ _ ⟨_, _, _, _, _, _, _, _, _, _, _, rfl, k0, k1, (Lib.hid fun _ => rfl), k3, k4, k5, k6, k7, k8, k9, k10, HW.out⟩
        · -- operation 3
          obtain rfl := k1.out (hd 1 (by decide))
          obtain rfl := k2.out (hd 2 (by decide))
          have HW := Lib.hid hW
          clear hW hL hd
          refine wpOp_step rfl fun K hK => ?_
          go_simp
          refine hK _ _ ⟨_, _, _, _, _, _, _, _, _, _, _, rfl, k0, k1, k2, (Lib.hid fun _ => rfl), k4, k5, k6, k7, k8, k9, k10, HW.out⟩
        · -- operation 4
          obtain rfl := k3.out (hd 3 (by decide))
          obtain ⟨c0, c1, c2, c3⟩ := (HR11.out.by hW).cells (i := k) (by rw [runsS_length]; exact hlt) HC1.out
          have HW := Lib.hid hW
          clear hW hL hd
          refine wpOp_step rfl fun K hK => ?_
          go_simp
          refine hK _ _ ⟨_, _, _, _, _, _, _, _, _, _, _, rfl, k0, k1, k2, k3, (Lib.hid fun _ => rfl), k5, k6, k7, k8, k9, k10, HW.out⟩
        · -- operation 5
          have HW := Lib.hid hW
          clear hW hL hd
          refine wpOp_step rfl fun K hK => ?_
          go_simp
          refine hK _ _ ⟨_, _, _, _, _, _, _, _, _, _, _, rfl, k0, k1, k2, k3, k4, (Lib.hid fun _ => rfl), k6, k7, k8, k9, k10, HW.out⟩
        · -- operation 6
          have HW := Lib.hid hW
          clear hW hL hd
          refine wpOp_step rfl fun K hK => ?_
          go_simp
          refine hK _ _ ⟨_, _, _, _, _, _, _, _, _, _, _, rfl, k0, k1, k2, k3, k4, k5, (Lib.hid fun _ => rfl), k7, k8, k9, k10, HW.out⟩
        · -- operation 7
          obtain rfl := k5.out (hd 5 (by decide))
          obtain rfl := k6.out (hd 6 (by decide))
          have HW := Lib.hid hW
          clear hW hL hd
          refine wpOp_step rfl fun K hK => ?_
          go_simp
          refine hK _ _ ⟨_, _, _, _, _, _, _, _, _, _, _, rfl, k0, k1, k2, k3, k4, k5, k6, (Lib.hid fun _ => rfl), k8, k9, k10, HW.out⟩
        · -- operation 8
          obtain rfl := k7.out (hd 7 (by decide))
          obtain ⟨c0, c1, c2, c3⟩ := (HR12.out.by hW).cells (i := k) (by rw [runsS_length, HLM.out]; exact hlt) HC2.out
          have HW := Lib.hid hW
          clear hW hL hd
          refine wpOp_step rfl fun K hK => ?_
          go_simp
          refine hK _ _ ⟨_, _, _, _, _, _, _, _, _, _, _, rfl, k0, k1, k2, k3, k4, k5, k6, k7, (Lib.hid fun _ => rfl), k9, k10, HW.out⟩
        · -- operation 9
          obtain rfl := k0.out (hd 0 (by decide))
          obtain rfl := k4.out (hd 4 (by decide))
          obtain rfl := k8.out (hd 8 (by decide))
          have HW := Lib.hid hW
          clear hW hL hd
          refine wpOp_step rfl fun K hK => ?_
          go_simp
          refine (HFF.out _ (HB.out.trans (HW.out.mono HB.out.size))).mono ?_
          rintro _ w' ⟨rfl, hb⟩
          refine hK _ _ ⟨_, _, _, _, _, _, _, _, _, _, _, rfl, k0, k1, k2, k3, k4, k5, k6, k7, k8, (Lib.hid fun _ => rfl), k10, HW.out.trans (hb.mono HW.out.size)⟩
        · -- operation 10
          obtain rfl := k9.out (hd 9 (by decide))
          have HW := Lib.hid hW
          clear hW hL hd
          refine wpOp_step rfl fun K hK => ?_
          go_simp
          refine hK _ _ ⟨_, _, _, _, _, _, _, _, _, _, _, rfl, k0, k1, k2, k3, k4, k5, k6, k7, k8, k9, (Lib.hid fun _ => rfl), HW.out⟩
      intro L a' u hI hall
      obtain ⟨v44, v45, v46, v47, v48, v49, v50, v51, v52, v53, v54, rfl, k0, k1, k2, k3, k4, k5, k6, k7, k8, k9, k10, hW⟩ := hI
      obtain rfl := k0.out (hall 0 (by decide))
      obtain rfl := k1.out (hall 1 (by decide))
      obtain rfl := k2.out (hall 2 (by decide))
      obtain rfl := k3.out (hall 3 (by decide))
      obtain rfl := k4.out (hall 4 (by decide))
      obtain rfl := k5.out (hall 5 (by decide))
      obtain rfl := k6.out (hall 6 (by decide))
      obtain rfl := k7.out (hall 7 (by decide))
      obtain rfl := k8.out (hall 8 (by decide))
      obtain rfl := k9.out (hall 9 (by decide))
      obtain rfl := k10.out (hall 10 (by decide))
      clear k0 k1 k2 k3 k4 k5 k6 k7 k8 k9 k10 hall
      show wpOps _ _ _ [] _ _
      unfold wpOps
      have HB3 := Lib.hid hW
      clear hW
      go_wp2
      go_roundw
      case rel => exact ⟨k + 1, by omega, by go_num, HB3.out⟩
      case measure => simp [intOf]; omega
    · obtain rfl : k = l.length := by omega
      go_wp2
      go_ret
      exact ⟨rfl, HB.out.trans (HB2.out.mono HB.out.size)⟩
end Go.Proofs.Ytenhhkeajhkfoaa
