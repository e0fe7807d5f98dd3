/- The contract of Mods. Conditions: near numbers, a rectangle with points. -/
import Derived.Test.YtojplcchoffapaaMod
import Derived.Test.YtojplcchoffapaaOwnP
import Derived.Defers
import Derived.Recover
namespace Go.Proofs.Ytojplcchoffapaa
open Go.RowKit

theorem catch_idle (p q : Addr) (w : World) :
    CallsD Try.prog 39 #[.pointer (some p), .pointer (some q)] .returning w fun e u' w' => e = .returned (.tuple #[]) ∧ u' = .returning ∧ w' = w := by
  refine callsD_of_wpS Try.func39 rfl fun c₀ cs hu => ?_
  apply wpS_seq
  apply wpS_region
  simp [wpOpsS, go_sem, recoverD, hu, Try.ntmps39, Exit.thenS]
  refine wpS_cond (t := false) (by simp [Act.eval, Array.replicate]) ?_
  simp only [Bool.false_eq_true, if_false]
  refine wpS_of_wp (wp_skip ?_)
  cases c₀
  simp_all [bodyPostS, results, Try.results39]
/-- Mod of a point -/
def modP (a b c d : Int) (p : P) : P := ⟨modI p.x a (c - a), modI p.y b (d - b)⟩
def NearP (p : P) : Prop := Near p.x ∧ Near p.y

theorem ownP_set {u : World} {base g i : Nat} {v x : Value} {l : List P} {t : TypeId} {vs : List Value} (h : OwnP u base v l) (hg : At u g t vs) (ht : t ≠ 27) : OwnP (u.setCell ⟨g, i, none⟩ x) base v l := by
  refine ⟨h.1, ?_⟩
  rcases h.2 with h2 | ⟨k, cap, cur, hv, hk, hh, r⟩
  · exact .inl h2
  · have hne : k ≠ g := by
      rintro rfl
      unfold At at hg
      rw [hh] at hg
      injection hg with hg
      injection hg with _ e
      exact ht e.symm
    exact .inr ⟨k, cap, cur, hv, hk, (Below.heap_setCell _ _ _ _ hne).trans hh, r⟩
def tab_mods5 : List (List Nat) := [[], [0], [], [0, 1, 2], [0, 1, 2, 3], [], [0, 1, 2, 3, 4, 5]]
set_option maxHeartbeats 4000000 in
theorem mods_near (A : Option Addr) (cp : Nat) (l : List P) (a b c d : Int) (w : World) (hP : Pts w A l) (hn : l.length ≤ 1048576) (hl : ∀ p ∈ l, NearP p) (ha : Near a) (hb : Near b) (hc : Near c) (hd : Near d) (h1 : a < c) (h2 : b < d) :
    Calls Try.prog 21 #[.slice A l.length cp, .agg #[.int .i64 a, .int .i64 b, .int .i64 c, .int .i64 d]] w fun e w' => ∃ v, e = .returned (.tuple #[v, .bool false]) ∧ OwnP w' w.heap.size v (l.map (modP a b c d)) ∧ Below w.heap.size w w' := by
  have hmf : ∀ (fn : Fn) (first cap : Array Value) (w : World), (Instr.makeFunc fn first cap).run Try.prog w = .ok (.func fn first cap) w := fun _ _ _ _ => rfl
  have HP := Lib.hid hP
  have HN := Lib.hid (And.intro hl (And.intro ha (And.intro hb (And.intro hc (And.intro hd (And.intro h1 h2))))))
  clear hP hl ha hb hc hd h1 h2
  go_enter_defers Try.func21, Try.ntmps21
  go_wp2
  go_loopw [12] (fun i wr => ∃ (k : Nat) (v4 : Value), k ≤ l.length ∧ i = .int .i64 k ∧ At wr (w.heap.size + 1) 36 [v4] ∧ OwnP wr (w.heap.size + 1 + 1 + 1) v4 ((l.take k).map (modP a b c d)) ∧ At wr w.heap.size 24 [.int .i64 a, .int .i64 b, .int .i64 c, .int .i64 d] ∧ At wr (w.heap.size + 1 + 1) 4 [.bool false] ∧ Below w.heap.size w wr) (fun i _ => l.length - (intOf i).toNat)
  case atStart =>
    refine ⟨0, .slice none 0 0, Nat.zero_le _, rfl, ?_, ownP_nil _ _, ?_, ?_, ?_⟩
    · (repeat first | exact At.new' _ _ _ (by first | rfl | (simp only [size_alloc])) | refine At.drew ?_ | refine At.alloc ?_ _)
    · (repeat first | exact At.new' _ _ _ (by first | rfl | (simp only [size_alloc])) | refine At.drew ?_ | refine At.alloc ?_ _)
    · (repeat first | exact At.new' _ _ _ (by first | rfl | (simp only [size_alloc])) | refine At.drew ?_ | refine At.alloc ?_ _)
    · (repeat first | exact Below.refl _ _ | refine Below.drew ?_ | refine Below.alloc ?_ (by first | exact Nat.le_refl _ | (simp only [size_alloc]; omega)) _)
  case round =>
    obtain ⟨k, v4, hk, rfl, h4, ho4, h3, h5, hbel⟩ := hrel
    by_cases hlt : k < l.length
    · obtain ⟨g, o, rfl, hg, y0, y1⟩ := (HP.out.by hbel).at_ hlt
      have htk := take_map_snoc (modP a b c d) l k hlt
      have hnp := HN.out.1 l[k] (List.getElem_mem hlt)
      generalize l[k] = p at y0 y1 htk hnp
      obtain ⟨p0, p1⟩ := p
      dsimp only at y0 y1
      obtain ⟨⟨q0, q1⟩, hq⟩ : ∃ q, modP a b c d ⟨p0, p1⟩ = q := ⟨_, rfl⟩
      rw [hq] at htk
      have hmod := fun u => mod_near p0 p1 a b c d u hnp.1 hnp.2 HN.out.2.1 HN.out.2.2.1 HN.out.2.2.2.1 HN.out.2.2.2.2.1 HN.out.2.2.2.2.2.1 HN.out.2.2.2.2.2.2
      simp only [modP, P.mk.injEq] at hq
      rw [hq.1, hq.2] at hmod
      have HMOD := Lib.hid hmod
      have HI := Lib.hid (And.intro h4 (And.intro ho4 (And.intro h3 (And.intro h5 hbel))))
      have HT := Lib.hid htk
      clear hmod hq hnp htk h4 ho4 h3 h5 hbel
      go_wp2_with fail
      clear y0 y1
      refine from_table tab_mods5 (by kernel_rfl) (by kernel_rfl) (by kernel_rfl) (by kernel_rfl) fun hTab => ?_
      refine from_gen (fun u => At u wr.heap.size 27 [.int .i64 p0, .int .i64 p1] ∧ Below wr.heap.size wr u) ?_ ?_
      · refine ⟨?_, ?_⟩
        · (repeat first | exact At.new' _ _ _ (by first | rfl | (simp only [size_alloc])) | refine At.drew ?_ | refine At.alloc ?_ _)
        · (repeat first | exact Below.refl _ _ | refine Below.drew ?_ | refine Below.alloc ?_ (by first | exact Nat.le_refl _ | (simp only [size_alloc]; omega)) _)
      intro u hW
      -- operations 0 to 5
      refine from_block' hTab 0 6 (by decide) (by kernel_rfl)
        (fun L a' u => ∃ v8 v16 v17 v18 v19 v20 : Value, a' = ⟨#[.slice (some ⟨g, o, none⟩) l.length cp, .agg #[.int .i64 a, .int .i64 b, .int .i64 c, .int .i64 d], undef, .pointer (some ⟨w.heap.size, 0, none⟩), .pointer (some ⟨w.heap.size + 1, 0, none⟩), .pointer (some ⟨w.heap.size + 1 + 1, 0, none⟩), undef, .pointer (some ⟨wr.heap.size, 0, none⟩), v8, Value.func (Fn.func 39) #[] #[Value.pointer (some { block := w.heap.size + 1, off := 0 }), Value.pointer (some { block := w.heap.size + 1 + 1, off := 0 })], .slice (some ⟨g, o, none⟩) l.length cp, .int .i64 ↑l.length, .int .i64 ↑k, .bool true, .pointer (some ⟨g, o + k * 2, none⟩), .agg #[.int .i64 p0, .int .i64 p1], v16, v17, v18, v19, v20, u21, u22, u23, u24, u25, u26, u27, u28, u29, undef], [{ target := .fn (.func 39) #[.pointer (some ⟨w.heap.size + 1, 0, none⟩), .pointer (some ⟨w.heap.size + 1 + 1, 0, none⟩)], args := #[] }]⟩ ∧
          Hid (L 0 = true → v16 = .agg #[.int .i64 p0, .int .i64 p1]) ∧ Hid (L 1 = true → v17 = .agg #[.int .i64 p0, .int .i64 p1]) ∧ Hid (L 2 = true → v18 = .agg #[.int .i64 a, .int .i64 b, .int .i64 c, .int .i64 d]) ∧ Hid (L 3 = true → v19 = .agg #[.int .i64 a, .int .i64 b, .int .i64 c, .int .i64 d]) ∧ Hid (L 4 = true → v20 = .agg #[.int .i64 q0, .int .i64 q1]) ∧ Hid (L 5 = true → ∃ g8, v8 = .pointer (some ⟨g8, 0, none⟩) ∧ (wr.heap.size + 1) ≤ g8 ∧ At u g8 59 [.int .i64 0, .int .i64 0]) ∧ (At u wr.heap.size 27 [.int .i64 p0, .int .i64 p1] ∧ Below wr.heap.size wr u)) ?_ ?_ ?_
      · exact ⟨_, _, _, _, _, _, rfl, (Lib.hid fun h => by cases h), (Lib.hid fun h => by cases h), (Lib.hid fun h => by cases h), (Lib.hid fun h => by cases h), (Lib.hid fun h => by cases h), (Lib.hid fun h => by cases h), hW⟩
      · clear hW
        intro L a' u i hi1 hi2 hI hL hd
        obtain ⟨v8, v16, v17, v18, v19, v20, rfl, k0, k1, k2, k3, k4, k5, hW⟩ := hI
        obtain rfl | rfl | rfl | rfl | rfl | rfl := (show ∀ i : Nat, 0 ≤ i → i < 6 → (i = 0 ∨ i = 1 ∨ i = 2 ∨ i = 3 ∨ i = 4 ∨ i = 5) by omega) i hi1 hi2
        · -- operation 0
          obtain ⟨c0, c1⟩ := hW.1.two.1
          have HW := Lib.hid hW
          clear hW hL hd hi1 hi2
          refine wpOp_step rfl fun K hK => ?_
          go_simp
          refine hK _ _ ⟨_, _, _, _, _, _, rfl, (Lib.hid fun _ => rfl), k1, k2, k3, k4, k5, HW.out⟩
        · -- operation 1
          obtain rfl := k0.out (hd 0 (by decide))
          have HW := Lib.hid hW
          clear hW hL hd hi1 hi2
          refine wpOp_step rfl fun K hK => ?_
          go_simp
          go_at_call 33
          refine (point_any _ _ _).mono ?_
          rintro _ w' ⟨rfl, hb⟩
          refine hK _ _ ⟨_, _, _, _, _, _, rfl, k0, (Lib.hid fun _ => rfl), k2, k3, k4, (Lib.hid fun hl => ?_), ⟨HW.out.1.by hb, HW.out.2.trans (hb.mono HW.out.2.size)⟩⟩
          · obtain ⟨gg, eg, lg, hg⟩ := k5.out hl
            exact ⟨gg, eg, lg, hg.by hb⟩
        · -- operation 2
          obtain ⟨c0, c1, c2, c3⟩ := (HI.out.2.2.1.by hW.2).four.1
          have HW := Lib.hid hW
          clear hW hL hd hi1 hi2
          refine wpOp_step rfl fun K hK => ?_
          go_simp
          refine hK _ _ ⟨_, _, _, _, _, _, rfl, k0, k1, (Lib.hid fun _ => rfl), k3, k4, k5, HW.out⟩
        · -- operation 3
          obtain rfl := k2.out (hd 2 (by decide))
          have HW := Lib.hid hW
          clear hW hL hd hi1 hi2
          refine wpOp_step rfl fun K hK => ?_
          go_simp
          go_at_call 31
          refine (rectangle_any _ _ _ _ _).mono ?_
          rintro _ w' ⟨rfl, hb⟩
          refine hK _ _ ⟨_, _, _, _, _, _, rfl, k0, k1, k2, (Lib.hid fun _ => rfl), k4, (Lib.hid fun hl => ?_), ⟨HW.out.1.by hb, HW.out.2.trans (hb.mono HW.out.2.size)⟩⟩
          · obtain ⟨gg, eg, lg, hg⟩ := k5.out hl
            exact ⟨gg, eg, lg, hg.by hb⟩
        · -- operation 4
          obtain rfl := k1.out (hd 1 (by decide))
          obtain rfl := k3.out (hd 3 (by decide))
          have HW := Lib.hid hW
          clear hW hL hd hi1 hi2
          refine wpOp_step rfl fun K hK => ?_
          go_simp
          go_at_call 40
          refine (HMOD.out _).mono ?_
          rintro _ w' ⟨rfl, hb⟩
          refine hK _ _ ⟨_, _, _, _, _, _, rfl, k0, k1, k2, k3, (Lib.hid fun _ => rfl), (Lib.hid fun hl => ?_), ⟨HW.out.1.by hb, HW.out.2.trans (hb.mono HW.out.2.size)⟩⟩
          · obtain ⟨gg, eg, lg, hg⟩ := k5.out hl
            exact ⟨gg, eg, lg, hg.by hb⟩
        · -- operation 5
          have HW := Lib.hid hW
          clear hW hL hd hi1 hi2
          refine wpOp_step rfl fun K hK => ?_
          go_simp
          refine hK _ _ ⟨_, _, _, _, _, _, rfl, k0, k1, k2, k3, k4, (Lib.hid fun _ => ⟨_, rfl, (by have := HW.out.1.lt; omega), At.new _ _ _⟩), ⟨HW.out.1.by ((Below.refl _ _).alloc (Nat.le_refl _) _), HW.out.2.trans (((Below.refl _ _).alloc (Nat.le_refl _) _).mono HW.out.2.size)⟩⟩
      clear hW
      clear u
      intro L a' u hI hall
      obtain ⟨v8, v16, v17, v18, v19, v20, rfl, k0, k1, k2, k3, k4, k5, hW⟩ := hI
      obtain ⟨g8, e8, l8, h8⟩ := k5.out (hall 5 (by decide))
      obtain rfl := k0.out (hall 0 (by decide))
      obtain rfl := k1.out (hall 1 (by decide))
      obtain rfl := k2.out (hall 2 (by decide))
      obtain rfl := k3.out (hall 3 (by decide))
      obtain rfl := k4.out (hall 4 (by decide))
      subst e8
      clear k0 k1 k2 k3 k4 k5 hall L
      refine from_tail hTab 6 (by kernel_rfl) ?_
      show wpOps _ _ _ [6] _ _
      clear hTab
      obtain ⟨⟨p0', p1'⟩, f0, f1⟩ := h8.two
      have hlt3 := HI.out.2.2.2.1.lt
      have hs8 := h8.set2 (.int .i64 q0) (.int .i64 q1)
      have hbW := (hW.2.setCell (p := ⟨g8, 0, none⟩) (show wr.heap.size ≤ g8 by omega) (.int .i64 q0)).setCell (p := ⟨g8, 1, none⟩) (show wr.heap.size ≤ g8 by omega) (.int .i64 q1)
      have HW2 := Lib.hid (And.intro hs8 hbW)
      clear hW h8 hs8 hbW
      refine wpOps_tail 6 _ rfl rfl ?_
      simp only [List.drop_succ_cons, List.drop_zero]
      go_upto_region 6 with fail
      clear p0' p1' f0 f1
      obtain ⟨w3, hw3⟩ : ∃ w3, w3 = (u.setCell ⟨g8, 0, none⟩ (.int .i64 q0)).setCell ⟨g8, 1, none⟩ (.int .i64 q1) := ⟨_, rfl⟩
      rw [← hw3] at HW2 ⊢
      clear hw3
      have hb3 := HW2.out.2
      have H3 := Lib.hid (And.intro (HI.out.1.by hb3) (And.intro (HI.out.2.1.by hb3) (And.intro (HI.out.2.2.1.by hb3) (And.intro (HI.out.2.2.2.1.by hb3) (HI.out.2.2.2.2.trans (hb3.mono HI.out.2.2.2.2.size))))))
      clear hb3
      have c0 := H3.out.1.cell 0
      have cf := H3.out.1.frozen 0
      have clt := H3.out.1.lt
      obtain ⟨⟨r0, r1⟩, -⟩ := HW2.out.1.two
      have r8 := HW2.out.1.lt
      dsimp only [List.getElem?_cons_zero] at c0
      go_wp2_with (at_builtin; refine append_point rfl (.tmp 21) (.tmp 27) rfl _ (w.heap.size + 1 + 1 + 1) w3.heap.size _ _ ⟨q0, q1⟩ rfl (H3.out.2.1.alloc _) rfl (At.new _ _ _) (by rw [List.length_map, List.length_take]; omega) (by simp; omega) ?_; intro v' w4 hown4 hgr4 hbl4 hb4; have hat4 : At w4 (w.heap.size + 1) 36 [v4] := (H3.out.1.alloc _).below hb4 (by omega); have c4 := hat4.cell 0; have cf4 := hat4.frozen 0; dsimp only [List.getElem?_cons_zero] at c4; obtain ⟨A', c', rfl, _⟩ := hown4.form)
      go_roundw
      case rel =>
        have hB3 := H3.out.2.2.2.2.alloc H3.out.2.2.2.2.size (.cells #[.int .i64 q0, .int .i64 q1] 27)
        have hlen : ((l.take k).map (modP a b c d) ++ [(⟨q0, q1⟩ : P)]).length = k + 1 := by rw [List.length_append, List.length_map, List.length_take, List.length_singleton]; omega
        rw [hlen] at hown4
        refine ⟨_, _, _, _, _, _, _, _, _, _, _, _, _, _, _, _, _, _, _, _, ⟨k + 1, .slice A' (k + 1) c', by omega, by go_num, hat4.set_ 0 _, ?_, ?_, ?_, ?_⟩, rfl⟩
        · rw [HT.out]
          exact ownP_set hown4 hat4 (by decide)
        · exact ((H3.out.2.2.1.alloc _).below hb4 (by omega)).far (show _ ≠ w.heap.size + 1 by omega) _
        · exact ((H3.out.2.2.2.1.alloc _).below hb4 (by omega)).far (show _ ≠ w.heap.size + 1 by omega) _
        · exact (hB3.trans (hb4.mono (by omega))).setCell (show w.heap.size ≤ w.heap.size + 1 by omega) _
      case measure => simp [intOf]; omega
    · obtain rfl : k = l.length := by omega
      have c0 := h4.cell 0
      have cf := h4.frozen 0
      have d0 := h5.cell 0
      have df := h5.frozen 0
      dsimp only [List.getElem?_cons_zero] at c0 d0
      obtain ⟨A', c', rfl, _⟩ := ho4.form
      have HI := Lib.hid (And.intro h4 (And.intro ho4 (And.intro h3 (And.intro h5 hbel))))
      clear h4 ho4 h3 h5 hbel
      go_wp2
      refine leaves_cons (f := 39) (args := #[.pointer (some ⟨w.heap.size + 1, 0, none⟩), .pointer (some ⟨w.heap.size + 1 + 1, 0, none⟩)]) (by simp) (by simp [go_sem]) ?_
      refine (catch_idle _ _ _).mono ?_
      rintro e u' w'' ⟨rfl, rfl, rfl⟩
      have k4 := (HI.out.1.set_ 0 (.slice A' l.length c')).far (p := ⟨w.heap.size + 1 + 1, 0, none⟩) (show _ ≠ w.heap.size + 1 + 1 by omega) (.bool false)
      have k5 := (HI.out.2.2.2.1.far (p := ⟨w.heap.size + 1, 0, none⟩) (show _ ≠ w.heap.size + 1 by omega) (.slice A' l.length c')).set_ 0 (.bool false)
      have e4 := k4.cell 0
      have e5 := k5.cell 0
      simp only [List.set_cons_zero, List.getElem?_cons_zero] at e4 e5
      simp [Leaves, settle, results, Try.results21, go_sem, e4, e5]
      have hO := HI.out.2.1
      rw [List.take_length, List.length_map] at hO
      exact ⟨(ownP_set (ownP_set hO HI.out.1 (by decide)) (HI.out.2.2.2.1.far (p := ⟨w.heap.size + 1, 0, none⟩) (show _ ≠ w.heap.size + 1 by omega) _) (by decide)).mono (by omega), (HI.out.2.2.2.2.setCell (show w.heap.size ≤ w.heap.size + 1 by omega) _).setCell (show w.heap.size ≤ w.heap.size + 1 + 1 by omega) _⟩
end Go.Proofs.Ytojplcchoffapaa
