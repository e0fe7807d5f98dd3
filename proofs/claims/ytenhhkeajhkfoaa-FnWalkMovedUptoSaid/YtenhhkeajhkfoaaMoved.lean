/- The walk of FnWalkMoved. Conditions: at most 1048576 kinds. -/
import Derived.Test.YtenhhkeajhkfoaaCompared
import Derived.Test.YtenhhkeajhkfoaaMoved1
import Derived.Test.YtenhhkeajhkfoaaAppendS
import Derived.Test.YtenhhkeajhkfoaaPlainMov
namespace Go.Proofs.Ytenhhkeajhkfoaa
open Go.RowKit

theorem moved_near (a b c d x y : Int) (w : World) (h : Bd 144115188075855872 ⟨a, b, c, d⟩) (hx : -1125899906842624 ≤ x ∧ x ≤ 1125899906842624) (hy : -1125899906842624 ≤ y ∧ y ≤ 1125899906842624) :
    Calls Try.prog 23 #[.agg #[.int .i64 a, .int .i64 b, .int .i64 c, .int .i64 d], .int .i64 x, .int .i64 y] w fun e w' => e = .returned (.agg #[.int .i64 (a + x), .int .i64 (b + y), .int .i64 (c + x), .int .i64 (d + y)]) ∧ Below w.heap.size w w' := by
  have hm := moved_any a b c d x y w
  obtain ⟨h0, h1, h2, h3⟩ := h
  dsimp only at h0 h1 h2 h3
  rw [IntWalk.wrap64_in _ (by omega), IntWalk.wrap64_in _ (by omega), IntWalk.wrap64_in _ (by omega), IntWalk.wrap64_in _ (by omega)] at hm
  exact hm
theorem moved1_any (p q s t p' q' s' t' x y : Int) (g12 g13 : Nat) (w : World) (h12 : At w g12 3 [.int .i64 x]) (h13 : At w g13 3 [.int .i64 y])
    (hbd : Bd (1125899906842624 * 102) ⟨p, q, s, t⟩) (hx : -1125899906842624 ≤ x ∧ x ≤ 1125899906842624) (hy : -1125899906842624 ≤ y ∧ y ≤ 1125899906842624) (hmv : Mv x y ⟨p, q, s, t⟩ ⟨p', q', s', t'⟩) :
    Calls Try.prog 24 #[.agg #[.int .i64 p, .int .i64 q, .int .i64 s, .int .i64 t], .agg #[.int .i64 p', .int .i64 q', .int .i64 s', .int .i64 t'], .pointer (some ⟨g12, 0, none⟩), .pointer (some ⟨g13, 0, none⟩)] w fun e w' => e = .returned (.bool true) ∧ Below w.heap.size w w' := by
  have hm := fun u => moved_near p q s t x y u (hbd.mono (by omega)) hx hy
  by_cases he : p + x = p' ∧ q + y = q' ∧ s + x = s' ∧ t + y = t'
  · obtain ⟨rfl, rfl, rfl, rfl⟩ := he
    exact moved1_t _ _ _ _ _ _ _ _ _ _ _ _ _ h12 h13 hm
  · rcases hmv with h | ⟨h, h2⟩
    · simp only [movR, R.mk.injEq] at h
      exact absurd ⟨h.1.symm, h.2.1.symm, h.2.2.1.symm, h.2.2.2.symm⟩ he
    · have h3 := corner_empty h2
      simp only [R.mk.injEq] at h
      obtain ⟨rfl, rfl, rfl, rfl⟩ := h
      exact moved1_f _ _ _ _ _ _ _ _ _ _ _ _ _ _ _ _ _ h12 h13 hm he h3 h3

theorem OwnS.far {w : World} {base : Nat} {v : Value} {l : List S} (h : OwnS w base v l) {p : Addr} (hp : p.block < base) (u : Value) : OwnS (w.setCell p u) base v l := by
  refine ⟨h.1, ?_⟩
  rcases h.2 with h2 | ⟨g, cap, cur, hv, hg, hh, r⟩
  · exact .inl h2
  · exact .inr ⟨g, cap, cur, hv, hg, (Below.heap_setCell _ _ _ _ (by omega)).trans hh, r⟩
theorem OwnS.op_at {w : World} {base g n c k : Nat} {l : List S} (h : OwnS w base (.slice (some ⟨g, 0, none⟩) n c) l) (hk : k < l.length) {v : Int} (hv : l[k].op = v) : w.cell? ⟨g, k * 8, none⟩ = some (.int .i64 v) := by
  obtain ⟨A', c', e1, hst⟩ := h.form
  injection e1 with e1 _ e3
  subst e1 e3
  obtain ⟨g', o', e, _, hc, _⟩ := hst.at_ hk
  simp only [Option.some.injEq, Addr.mk.injEq, and_true] at e
  obtain ⟨rfl, rfl⟩ := e
  rw [Nat.zero_add, hv] at hc
  exact hc
/-- the first k steps calmed -/
def calmTo (l : List S) (k : Nat) : List S := (l.take k).map S.calm ++ l.drop k
theorem calmTo_length (l : List S) (k : Nat) : (calmTo l k).length = l.length := by simp [calmTo]; omega
theorem calmTo_zero (l : List S) : calmTo l 0 = l := by simp [calmTo]
theorem calmTo_all (l : List S) : calmTo l l.length = l.map S.calm := by simp [calmTo]
theorem calmTo_get (l : List S) (k : Nat) (hk : k < l.length) : (calmTo l k)[k]'(by rw [calmTo_length]; exact hk) = l[k] := by
  simp [calmTo, Nat.min_eq_left (Nat.le_of_lt hk)]
theorem calmTo_succ (l : List S) (k : Nat) (hk : k < l.length) : calmTo l (k + 1) = (calmTo l k).set k (l[k].calm) := by
  unfold calmTo
  rw [List.take_succ_eq_append_getElem hk, List.map_append, List.append_assoc]
  rw [List.set_append_right _ _ (by simp; omega)]
  have e : k - ((l.take k).map S.calm).length = 0 := by simp; omega
  rw [e, List.drop_eq_getElem_cons hk]
  rfl
theorem calmTo_op (l : List S) (k : Nat) (hk : k < l.length) : ((calmTo l (k + 1))[k]'(by rw [calmTo_length]; exact hk)).op = l[k].calm.op := by
  simp [calmTo_succ l k hk]
/-- what the loop of FnWalkMoved keeps in memory -/
def MovMem (wx : World) (g12 g15 : Nat) (x y s0 s1 s2 s3 : Int) : Prop := At wx g12 3 [.int .i64 x] ∧ At wx (g12 + 1) 3 [.int .i64 y] ∧ At wx g15 25 [.int .i64 s0, .int .i64 s1, .int .i64 s2, .int .i64 s3]
theorem MovMem.by {wx wy : World} {g12 g15 : Nat} {x y s0 s1 s2 s3 : Int} (h : MovMem wx g12 g15 x y s0 s1 s2 s3) (hb : Below wx.heap.size wx wy) : MovMem wy g12 g15 x y s0 s1 s2 s3 := ⟨h.1.by hb, h.2.1.by hb, h.2.2.by hb⟩
theorem MovMem.drew {wx : World} {g12 g15 : Nat} {x y s0 s1 s2 s3 : Int} (h : MovMem wx g12 g15 x y s0 s1 s2 s3) : MovMem wx.drew g12 g15 x y s0 s1 s2 s3 := ⟨h.1.drew, h.2.1.drew, h.2.2.drew⟩
theorem OwnS.ne_ {w : World} {base g n c o : Nat} {l : List S} (h : OwnS w base (.slice (some ⟨g, o, none⟩) n c) l) {g' : Nat} {t : TypeId} {vs : List Value} (h' : At w g' t vs) (ht : t ≠ 31) : g' ≠ g := by
  obtain ⟨_, _, _, cur, hh, _⟩ := h.open_
  rintro rfl
  unfold At at h'
  rw [hh] at h'
  injection h' with h'
  injection h' with _ e
  exact ht e.symm

set_option maxHeartbeats 8000000 in
theorem moved_walk (A A0 A1 A2 A4 : Option Addr) (n c n0 c0 n1 c1 n2 c2 n4 c4 : Nat) (z z0 z1 z2 : List Int) (z4 : List (List Int)) (x y : Int) (w : World)
    (h : Ints w A n z) (h0 : Ints w A0 n0 z0) (h1 : Ints w A1 n1 z1) (h2 : Ints w A2 n2 z2) (h4 : RowsAt w A4 n4 z4) (hn : n0 ≤ 1048576) :
    Calls Try.prog 6 #[.slice A n c, .slice A0 n0 c0, .slice A1 n1 c1, .slice A2 n2 c2, .slice A4 n4 c4, .int .i64 x, .int .i64 y] w fun e w' => e = .returned (.bool true) ∧ Below w.heap.size w w' := by
  have L := fun u hu => lrect_any A n c z u hu
  generalize rectOf z = sr at L
  obtain ⟨s0, s1, s2, s3⟩ := sr
  have HL := Lib.hid L
  have HS := Lib.hid (fun u b0 b1 b2 b4 => script_any A0 A1 A2 none A4 n0 c0 n1 c1 n2 c2 0 0 n4 c4 z0 z1 z2 [] z4 u b0 b1 b2 ⟨rfl, fun h => absurd h (by omega)⟩ b4 hn)
  obtain ⟨l, hl⟩ : ∃ l, scriptS z0 z1 z2 [] z4 n0 = l := ⟨_, rfl⟩
  have hm : l.length ≤ 1048576 := by rw [← hl, scriptS_length]; exact hn
  rw [hl] at HS
  clear hl
  have H := Lib.hid h
  have HH := Lib.hid (And.intro h0 (And.intro h1 (And.intro h2 h4)))
  clear L h h0 h1 h2 h4
  go_enter Try.func6, Try.ntmps6
  go_wp2_with fail
  have hb0 := two_new w (.cells #[.int .i64 x] 3) (.cells #[.int .i64 y] 3)
  have h12 := (At.new w 3 [.int .i64 x]).alloc (.cells #[.int .i64 y] 3)
  have h13 := At.new (w.alloc (.cells #[.int .i64 x] 3)) 3 [.int .i64 y]
  rw [size_alloc] at h13
  refine (HL.out _ (H.out.below (Nat.le_refl _) hb0)).mono ?_
  rintro _ w1 ⟨rfl, hb1⟩
  have HB1 := Lib.hid (hb0.trans (hb1.mono hb0.size))
  have H1 := Lib.hid (And.intro (h12.by hb1) (h13.by hb1))
  clear hb1 hb0 h12 h13 HL H
  go_wp2_with fail
  refine (HS.out _ (HH.out.1.below (Nat.le_refl _) HB1.out) (HH.out.2.1.below (Nat.le_refl _) HB1.out) (HH.out.2.2.1.below (Nat.le_refl _) HB1.out) (HH.out.2.2.2.by HB1.out)).mono ?_
  rintro _ w2 ⟨v2, rfl, ho2, hb2⟩
  obtain ⟨A14, c14, rfl, hS⟩ := ho2.form
  have HB2 := Lib.hid (HB1.out.trans (hb2.mono HB1.out.size))
  have HO2 := Lib.hid (And.intro ho2 hS)
  have H2 := Lib.hid (And.intro (H1.out.1.by hb2) (H1.out.2.by hb2))
  have hsz := HB1.out.size
  clear hb2 ho2 hS HB1 HS HH H1
  go_wp2_with fail
  have hb3 := two_new w2 (.cells #[] 31) (.cells #[.int .i64 s0, .int .i64 s1, .int .i64 s2, .int .i64 s3] 25)
  have h15 := (At.new (w2.alloc (.cells #[] 31)) 25 [.int .i64 s0, .int .i64 s1, .int .i64 s2, .int .i64 s3])
  rw [size_alloc] at h15
  have ho17 := (ownS_empty w2).alloc (.cells #[.int .i64 s0, .int .i64 s1, .int .i64 s2, .int .i64 s3] 25)
  have hSM := small_any s0 s1 s2 s3 A14 c14 l _ (HO2.out.2.by hb3) (by omega)
  obtain ⟨near, hnear⟩ : ∃ near, nearAll ⟨s0, s1, s2, s3⟩ l = near := ⟨_, rfl⟩
  rw [hnear] at hSM
  have HNE := Lib.hid hnear
  clear hnear
  refine hSM.mono ?_
  clear hSM
  rintro _ w3 ⟨rfl, hb4⟩
  have hb5 := hb3.trans (hb4.mono hb3.size)
  have HI3 := Lib.hid (And.intro (ho17.by hb4) (And.intro (HO2.out.1.by hb5) (And.intro (show MovMem w3 w.heap.size (w2.heap.size + 1) x y s0 s1 s2 s3 from ⟨H2.out.1.by hb5, H2.out.2.by hb5, h15.by hb4⟩) (HB2.out.trans (hb5.mono HB2.out.size)))))
  clear h15 ho17 hb3 hb4 hb5 H2 HB2
  cases near with
  | false =>
    go_wp2
    go_ret
    exact ⟨rfl, HI3.out.2.2.2⟩
  | true =>
  have y0 := HI3.out.2.2.1.1.cell 0
  have y1 := HI3.out.2.2.1.2.1.cell 0
  dsimp only [List.getElem?_cons_zero] at y0 y1
  go_wp2_with fail
  clear y0 y1
  have hSM := Small_any 1125899906842624 _ 2 2 [x, y] _ (At.ints (zs := [x, y]) (At.new w3 3 [.int .i64 x, .int .i64 y])) (by omega) (by omega) (by omega)
  obtain ⟨near2, hnear⟩ : ∃ near, allB 1125899906842624 [x, y] = near := ⟨_, rfl⟩
  rw [hnear] at hSM
  have HNX := Lib.hid hnear
  clear hnear
  refine hSM.mono ?_
  clear hSM
  rintro _ w4 ⟨rfl, hb4⟩
  have hb5 := ((Below.refl w3.heap.size w3).alloc (Nat.le_refl _) (.cells #[.int .i64 x, .int .i64 y] 3)).trans (hb4.mono (by simp))
  have HI4 := Lib.hid (And.intro (HI3.out.1.by hb5) (And.intro (HI3.out.2.1.by hb5) (And.intro (HI3.out.2.2.1.by hb5) (HI3.out.2.2.2.trans (hb5.mono HI3.out.2.2.2.size)))))
  clear hb4 hb5 HI3
  cases near2 with
  | false =>
    go_wp2
    go_ret
    exact ⟨rfl, HI4.out.2.2.2⟩
  | true =>
  have hxy := (allB_iff _ _).1 HNX.out
  simp only [List.mem_cons, List.not_mem_nil, or_false, forall_eq_or_imp, forall_eq] at hxy
  have HXY := Lib.hid hxy
  clear hxy
  go_wp2
  go_loopw [17, 41] (fun v i wr => ∃ k : Nat, k ≤ l.length ∧ i = .int .i64 k ∧ OwnS wr w2.heap.size v ((l.take k).map fun s => movS x y s.calm) ∧ OwnS wr w1.heap.size (.slice A14 l.length c14) (calmTo l k) ∧ MovMem wr w.heap.size (w2.heap.size + 1) x y s0 s1 s2 s3 ∧ Below w.heap.size w wr) (fun _ i _ => l.length - (intOf i).toNat)
  case atStart =>
    exact ⟨0, Nat.zero_le _, rfl, HI4.out.1, by rw [calmTo_zero]; exact HI4.out.2.1, HI4.out.2.2.1, HI4.out.2.2.2⟩
  case round =>
    obtain ⟨k, hk, rfl, hmore, hown, hmem, hbel⟩ := hrel
    by_cases hlt : k < l.length
    · obtain ⟨A', c', e1, hst⟩ := hown.form
      injection e1 with e1 e2 e3
      clear e2
      subst e1 e3
      obtain ⟨gs, os, rfl, hgs, y0, y1, y2, y3, y4, y5, y6, y7⟩ := hst.at_ (i := k) (by rw [calmTo_length]; exact hlt)
      obtain ⟨rfl, -, hbase, -⟩ := hown.open_
      have hgw : gs < w2.heap.size := by
        obtain ⟨g2, o2, e2, hg2⟩ := HO2.out.2.addr (by omega)
        simp only [Option.some.injEq, Addr.mk.injEq, and_true] at e2
        omega
      have hset := hown.setop (k := k) (by rw [calmTo_length]; exact hlt) (-1)
      have hsuc := calmTo_succ l k hlt
      have hop := calmTo_op l k hlt
      have hfz : wr.frozen? ⟨gs, k * 8, none⟩ = false := hown.frozen
      have hne := And.intro (hown.ne_ hmem.1 (by decide)) (And.intro (hown.ne_ hmem.2.1 (by decide)) (hown.ne_ hmem.2.2 (by decide)))
      have hsame : (calmTo l k).set k l[k] = calmTo l k := by
        have h := calmTo_get l k hlt
        rw [← h]
        exact List.set_getElem_self _
      have htk := take_map_snoc (fun s => movS x y s.calm) l k hlt
      have hnr := (nearAll_out HNE.out).2.2 l[k] (List.getElem_mem hlt)
      rw [calmTo_get l k hlt] at y0 y1 y2 y3 y4 y5 y6 y7 hset
      generalize l[k] = s at y0 y1 y2 y3 y4 y5 y6 y7 hset hsuc hsame hop htk hnr
      obtain ⟨op, px, py, n', ⟨e, f, g', h'⟩⟩ := s
      dsimp only at y0 y1 y2 y3 y4 y5 y6 y7 hset
      have HM := Lib.hid (And.intro hmore (And.intro hown (And.intro hmem hbel)))
      have HSET := Lib.hid (And.intro hset (hbel.setCell (p := ⟨gs, k * 8, none⟩) (show w.heap.size ≤ gs by omega) (.int .i64 (-1))))
      have HSUC := Lib.hid (And.intro hsuc (And.intro hsame (And.intro htk hop)))
      have HNEB := Lib.hid hne
      have HMV := Lib.hid (fun w => moved_near e f g' h' x y w (hnr.2.2.2.mono (by omega)) HXY.out.1 HXY.out.2)
      clear hmore hown hmem hbel hset hsuc hsame hne htk hnr hst hop
      simp only [Nat.zero_add] at y0 y1 y2 y3 y4 y5 y6 y7
      obtain ⟨op', hop'⟩ : ∃ o', (S.calm ⟨op, px, py, n', ⟨e, f, g', h'⟩⟩).op = o' := ⟨_, rfl⟩
      have HOP := Lib.hid hop'
      clear hop'
      go_upto_if 48 with fail
      go_cut [] (fun wx => OwnS wx w1.heap.size (.slice (some ⟨gs, 0, none⟩) l.length c14) (calmTo l (k + 1)) ∧ At wx wr.heap.size 31 [.int .i64 op, .int .i64 px, .int .i64 py, .int .i64 n', .int .i64 e, .int .i64 f, .int .i64 g', .int .i64 h'] ∧ OwnS wx w2.heap.size u17 ((l.take k).map fun s => movS x y s.calm) ∧ MovMem wx w.heap.size (w2.heap.size + 1) x y s0 s1 s2 s3 ∧ Below w.heap.size w wx)
      case first =>
        by_cases q2 : op = 2
        · subst q2
          go_wp2
          go_meet
          rw [HSUC.out.1, show S.calm ⟨2, px, py, n', ⟨e, f, g', h'⟩⟩ = S.as ⟨2, px, py, n', ⟨e, f, g', h'⟩⟩ (-1) from if_pos rfl]
          obtain ⟨hm1, hm2, hm3⟩ := HM.out.2.2.1
          exact ⟨HSET.out.1.alloc _, At.new' _ _ _ (by simp), (HM.out.1.far hgw _).alloc _, ⟨(hm1.far HNEB.out.1 _).alloc _, (hm2.far HNEB.out.2.1 _).alloc _, (hm3.far HNEB.out.2.2 _).alloc _⟩, HSET.out.2.alloc HSET.out.2.size _⟩
        · have qb : (op == 2) = false := beq_eq_false_iff_ne.2 q2
          go_wp2
          go_meet
          rw [HSUC.out.1, show S.calm ⟨op, px, py, n', ⟨e, f, g', h'⟩⟩ = ⟨op, px, py, n', ⟨e, f, g', h'⟩⟩ from if_neg q2, HSUC.out.2.1]
          exact ⟨HM.out.2.1.alloc _, At.new' _ _ _ rfl, HM.out.1.alloc _, ⟨HM.out.2.2.1.1.alloc _, HM.out.2.2.1.2.1.alloc _, HM.out.2.2.1.2.2.alloc _⟩, HM.out.2.2.2.alloc HM.out.2.2.2.size _⟩
      case rest =>
        clear y0 y1 y2 y3 y4 y5 y6 y7
        have HC := Lib.hid hcut
        clear hcut
        have HOPK := Lib.hid (HSUC.out.2.2.2.trans HOP.out)
        go_wp2_with fail
        refine wp_region_tail [[], [], [], [1, 2], [1, 2, 3], [1, 2, 3, 4], [], [6], [], [8], [], [], [8, 9, 10, 11], [1, 2, 3, 4, 5, 6, 7, 8, 9, 10, 11, 12], [1, 2, 3, 4, 5, 6, 7, 8, 9, 10, 11, 12, 13], [0, 1, 2, 3, 4, 5, 6, 7, 8, 9, 10, 11, 12, 13, 14], [0, 1, 2, 3, 4, 5, 6, 7, 8, 9, 10, 11, 12, 13, 14, 15]] (by kernel_rfl) (by kernel_rfl) 15 rfl (by decide) (by decide) (by kernel_rfl)
          (fun L a' u => ∃ v53 v54 v55 v56 v57 v58 v59 v60 v61 v62 v63 v64 v65 v66 v67 : Value, a' = ⟨#[Value.slice A n c, Value.slice A0 n0 c0, Value.slice A1 n1 c1, Value.slice A2 n2 c2, Value.slice A4 n4 c4, .int .i64 x, .int .i64 y, undef, undef, undef, undef, undef, .pointer (some ⟨w.heap.size, 0, none⟩), .pointer (some ⟨w.heap.size + 1, 0, none⟩), .bool false, .pointer (some ⟨w2.heap.size + 1, 0, none⟩), .slice (some ⟨gs, 0, none⟩) l.length c14, u17, .int .i64 ↑k, .pointer (some ⟨wr.heap.size, 0, none⟩), Value.slice A n c, .agg #[.int .i64 s0, .int .i64 s1, .int .i64 s2, .int .i64 s3], Value.slice A0 n0 c0, Value.slice A1 n1 c1, Value.slice A2 n2 c2, Value.slice A4 n4 c4, .slice (some ⟨gs, 0, none⟩) l.length c14, .slice (some ⟨w2.heap.size, 0, none⟩) 0 0, .agg #[.int .i64 s0, .int .i64 s1, .int .i64 s2, .int .i64 s3], .slice (some ⟨gs, 0, none⟩) l.length c14, .bool true, .bool false, .bool false, .int .i64 x, .int .i64 y, .slice (some ⟨w3.heap.size, 0, none⟩) 2 2, .bool true, .bool false, .bool false, .slice (some ⟨gs, 0, none⟩) l.length c14, .int .i64 ↑l.length, .int .i64 ↑k, u42, u43, u44, u45, u46, u47, u48, u49, u50, u51, u52, v53, v54, v55, v56, v57, v58, v59, v60, v61, v62, v63, v64, v65, v66, v67, u68, u69, undef, undef, undef, undef, undef, undef, undef, undef, undef], []⟩ ∧
            Hid (L 0 = true → v53 = u17) ∧ Hid (L 1 = true → v54 = .slice (some ⟨gs, 0, none⟩) l.length c14) ∧ Hid (L 2 = true → v55 = .int .i64 ↑k) ∧ Hid (L 3 = true → v56 = .pointer (some ⟨gs, k * 8, none⟩)) ∧ Hid (L 4 = true → v57 = .pointer (some ⟨gs, k * 8, none⟩)) ∧ Hid (L 5 = true → v58 = .int .i64 (op')) ∧ Hid (L 6 = true → v59 = .pointer (some ⟨wr.heap.size, 1, none⟩)) ∧ Hid (L 7 = true → v60 = .agg #[.int .i64 (px), .int .i64 (py)]) ∧ Hid (L 8 = true → v61 = .pointer (some ⟨wr.heap.size, 4, none⟩)) ∧ Hid (L 9 = true → v62 = .agg #[.int .i64 (e), .int .i64 (f), .int .i64 (g'), .int .i64 (h')]) ∧ Hid (L 10 = true → v63 = .int .i64 (x)) ∧ Hid (L 11 = true → v64 = .int .i64 (y)) ∧ Hid (L 12 = true → v65 = .agg #[.int .i64 (e + x), .int .i64 (f + y), .int .i64 (g' + x), .int .i64 (h' + y)]) ∧ Hid (L 13 = true → v66 = .agg #[.int .i64 (op'), .int .i64 (px), .int .i64 (py), .int .i64 0, .int .i64 (e + x), .int .i64 (f + y), .int .i64 (g' + x), .int .i64 (h' + y)]) ∧ Hid (L 14 = true → ∃ g67, v67 = .slice (some ⟨g67, 0, none⟩) 1 1 ∧ w.heap.size ≤ g67 ∧ At u g67 31 [.int .i64 (op'), .int .i64 (px), .int .i64 (py), .int .i64 0, .int .i64 (e + x), .int .i64 (f + y), .int .i64 (g' + x), .int .i64 (h' + y)]) ∧ ((OwnS u w1.heap.size (.slice (some ⟨gs, 0, none⟩) l.length c14) (calmTo l (k + 1)) ∧ At u wr.heap.size 31 [.int .i64 op, .int .i64 px, .int .i64 py, .int .i64 n', .int .i64 e, .int .i64 f, .int .i64 g', .int .i64 h'] ∧ OwnS u w2.heap.size u17 ((l.take k).map fun s => movS x y s.calm) ∧ MovMem u w.heap.size (w2.heap.size + 1) x y s0 s1 s2 s3 ∧ Below w.heap.size w u))) ?_ ?_ ?_
        · refine ⟨_, _, _, _, _, _, _, _, _, _, _, _, _, _, _, rfl, (Lib.hid fun h => by cases h), (Lib.hid fun h => by cases h), (Lib.hid fun h => by cases h), (Lib.hid fun h => by cases h), (Lib.hid fun h => by cases h), (Lib.hid fun h => by cases h), (Lib.hid fun h => by cases h), (Lib.hid fun h => by cases h), (Lib.hid fun h => by cases h), (Lib.hid fun h => by cases h), (Lib.hid fun h => by cases h), (Lib.hid fun h => by cases h), (Lib.hid fun h => by cases h), (Lib.hid fun h => by cases h), (Lib.hid fun h => by cases h), ?_⟩
          exact ⟨HC.out.1.keep (fun _ _ => rfl), HC.out.2.1.drew, HC.out.2.2.1.keep (fun _ _ => rfl), MovMem.drew HC.out.2.2.2.1, HC.out.2.2.2.2.drew⟩
        · intro L a' u i hi hI hL hd
          obtain ⟨v53, v54, v55, v56, v57, v58, v59, v60, v61, v62, v63, v64, v65, v66, v67, rfl, k0, k1, k2, k3, k4, k5, k6, k7, k8, k9, k10, k11, k12, k13, k14, hW⟩ := hI
          obtain rfl | rfl | rfl | rfl | rfl | rfl | rfl | rfl | rfl | rfl | rfl | rfl | rfl | rfl | rfl : i = 0 ∨ i = 1 ∨ i = 2 ∨ i = 3 ∨ i = 4 ∨ i = 5 ∨ i = 6 ∨ i = 7 ∨ i = 8 ∨ i = 9 ∨ i = 10 ∨ i = 11 ∨ i = 12 ∨ i = 13 ∨ i = 14 := by omega
          · -- operation 0
            have HW := Lib.hid hW
            clear hW hL hd
            refine wpOp_step rfl fun K hK => ?_
            go_simp
            refine hK _ _ ⟨_, _, _, _, _, _, _, _, _, _, _, _, _, _, _, rfl, (Lib.hid fun _ => rfl), k1, k2, k3, k4, k5, k6, k7, k8, k9, k10, k11, k12, k13, k14, HW.out⟩
          · -- operation 1
            have HW := Lib.hid hW
            clear hW hL hd
            refine wpOp_step rfl fun K hK => ?_
            go_simp
            refine hK _ _ ⟨_, _, _, _, _, _, _, _, _, _, _, _, _, _, _, rfl, k0, (Lib.hid fun _ => rfl), k2, k3, k4, k5, k6, k7, k8, k9, k10, k11, k12, k13, k14, HW.out⟩
          · -- operation 2
            have HW := Lib.hid hW
            clear hW hL hd
            refine wpOp_step rfl fun K hK => ?_
            go_simp
            refine hK _ _ ⟨_, _, _, _, _, _, _, _, _, _, _, _, _, _, _, rfl, k0, k1, (Lib.hid fun _ => rfl), k3, k4, k5, k6, k7, k8, k9, k10, k11, k12, k13, k14, HW.out⟩
          · -- operation 3
            obtain rfl := k1.out (hd 1 (by decide))
            obtain rfl := k2.out (hd 2 (by decide))
            have HW := Lib.hid hW
            clear hW hL hd
            refine wpOp_step rfl fun K hK => ?_
            go_simp
            refine hK _ _ ⟨_, _, _, _, _, _, _, _, _, _, _, _, _, _, _, rfl, k0, k1, k2, (Lib.hid fun _ => rfl), k4, k5, k6, k7, k8, k9, k10, k11, k12, k13, k14, HW.out⟩
          · -- operation 4
            obtain rfl := k3.out (hd 3 (by decide))
            have HW := Lib.hid hW
            clear hW hL hd
            refine wpOp_step rfl fun K hK => ?_
            go_simp
            refine hK _ _ ⟨_, _, _, _, _, _, _, _, _, _, _, _, _, _, _, rfl, k0, k1, k2, k3, (Lib.hid fun _ => rfl), k5, k6, k7, k8, k9, k10, k11, k12, k13, k14, HW.out⟩
          · -- operation 5
            obtain rfl := k4.out (hd 4 (by decide))
            have c0 := hW.1.op_at (by rw [calmTo_length]; exact hlt) HOPK.out
            have HW := Lib.hid hW
            clear hW hL hd
            refine wpOp_step rfl fun K hK => ?_
            go_simp
            refine hK _ _ ⟨_, _, _, _, _, _, _, _, _, _, _, _, _, _, _, rfl, k0, k1, k2, k3, k4, (Lib.hid fun _ => rfl), k6, k7, k8, k9, k10, k11, k12, k13, k14, HW.out⟩
          · -- operation 6
            have HW := Lib.hid hW
            clear hW hL hd
            refine wpOp_step rfl fun K hK => ?_
            go_simp
            refine hK _ _ ⟨_, _, _, _, _, _, _, _, _, _, _, _, _, _, _, rfl, k0, k1, k2, k3, k4, k5, (Lib.hid fun _ => rfl), k7, k8, k9, k10, k11, k12, k13, k14, HW.out⟩
          · -- operation 7
            obtain rfl := k6.out (hd 6 (by decide))
            obtain ⟨c0, c1, c2, c3, c4, c5, c6, c7⟩ := hW.2.1.eight.1
            have HW := Lib.hid hW
            clear hW hL hd
            refine wpOp_step rfl fun K hK => ?_
            go_simp
            refine hK _ _ ⟨_, _, _, _, _, _, _, _, _, _, _, _, _, _, _, rfl, k0, k1, k2, k3, k4, k5, k6, (Lib.hid fun _ => rfl), k8, k9, k10, k11, k12, k13, k14, HW.out⟩
          · -- operation 8
            have HW := Lib.hid hW
            clear hW hL hd
            refine wpOp_step rfl fun K hK => ?_
            go_simp
            refine hK _ _ ⟨_, _, _, _, _, _, _, _, _, _, _, _, _, _, _, rfl, k0, k1, k2, k3, k4, k5, k6, k7, (Lib.hid fun _ => rfl), k9, k10, k11, k12, k13, k14, HW.out⟩
          · -- operation 9
            obtain rfl := k8.out (hd 8 (by decide))
            obtain ⟨c0, c1, c2, c3, c4, c5, c6, c7⟩ := hW.2.1.eight.1
            have HW := Lib.hid hW
            clear hW hL hd
            refine wpOp_step rfl fun K hK => ?_
            go_simp
            refine hK _ _ ⟨_, _, _, _, _, _, _, _, _, _, _, _, _, _, _, rfl, k0, k1, k2, k3, k4, k5, k6, k7, k8, (Lib.hid fun _ => rfl), k10, k11, k12, k13, k14, HW.out⟩
          · -- operation 10
            have c0 := hW.2.2.2.1.1.cell 0
            have HW := Lib.hid hW
            clear hW hL hd
            refine wpOp_step rfl fun K hK => ?_
            go_simp
            refine hK _ _ ⟨_, _, _, _, _, _, _, _, _, _, _, _, _, _, _, rfl, k0, k1, k2, k3, k4, k5, k6, k7, k8, k9, (Lib.hid fun _ => rfl), k11, k12, k13, k14, HW.out⟩
          · -- operation 11
            have c0 := hW.2.2.2.1.2.1.cell 0
            have HW := Lib.hid hW
            clear hW hL hd
            refine wpOp_step rfl fun K hK => ?_
            go_simp
            refine hK _ _ ⟨_, _, _, _, _, _, _, _, _, _, _, _, _, _, _, rfl, k0, k1, k2, k3, k4, k5, k6, k7, k8, k9, k10, (Lib.hid fun _ => rfl), k12, k13, k14, HW.out⟩
          · -- operation 12
            obtain rfl := k9.out (hd 9 (by decide))
            obtain rfl := k10.out (hd 10 (by decide))
            obtain rfl := k11.out (hd 11 (by decide))
            have HW := Lib.hid hW
            clear hW hL hd
            refine wpOp_step rfl fun K hK => ?_
            go_simp
            go_at_call 23
            refine (HMV.out _).mono ?_
            rintro _ w' ⟨rfl, hb⟩
            refine hK _ _ ⟨_, _, _, _, _, _, _, _, _, _, _, _, _, _, _, rfl, k0, k1, k2, k3, k4, k5, k6, k7, k8, k9, k10, k11, (Lib.hid fun _ => rfl), k13, (Lib.hid fun hl => ?_), ⟨HW.out.1.by hb, HW.out.2.1.by hb, HW.out.2.2.1.by hb, HW.out.2.2.2.1.by hb, HW.out.2.2.2.2.trans (hb.mono HW.out.2.2.2.2.size)⟩⟩
            · obtain ⟨gg, eg, lg, hg⟩ := k14.out hl
              exact ⟨gg, eg, lg, hg.by hb⟩
          · -- operation 13
            obtain rfl := k5.out (hd 5 (by decide))
            obtain rfl := k7.out (hd 7 (by decide))
            obtain rfl := k12.out (hd 12 (by decide))
            have HW := Lib.hid hW
            clear hW hL hd
            refine wpOp_step rfl fun K hK => ?_
            go_simp
            refine hK _ _ ⟨_, _, _, _, _, _, _, _, _, _, _, _, _, _, _, rfl, k0, k1, k2, k3, k4, k5, k6, k7, k8, k9, k10, k11, k12, (Lib.hid fun _ => rfl), k14, HW.out⟩
          · -- operation 14
            obtain rfl := k13.out (hd 13 (by decide))
            have HW := Lib.hid hW
            clear hW hL hd
            refine wpOp_step rfl fun K hK => ?_
            go_simp
            refine hK _ _ ⟨_, _, _, _, _, _, _, _, _, _, _, _, _, _, _, rfl, k0, k1, k2, k3, k4, k5, k6, k7, k8, k9, k10, k11, k12, k13, (Lib.hid fun _ => ⟨_, rfl, HW.out.2.2.2.2.size, At.new _ _ _⟩), ⟨HW.out.1.by ((Below.refl _ _).alloc (Nat.le_refl _) _), HW.out.2.1.by ((Below.refl _ _).alloc (Nat.le_refl _) _), HW.out.2.2.1.by ((Below.refl _ _).alloc (Nat.le_refl _) _), HW.out.2.2.2.1.by ((Below.refl _ _).alloc (Nat.le_refl _) _), HW.out.2.2.2.2.trans (((Below.refl _ _).alloc (Nat.le_refl _) _).mono HW.out.2.2.2.2.size)⟩⟩
        intro L a' u hI hall
        obtain ⟨v53, v54, v55, v56, v57, v58, v59, v60, v61, v62, v63, v64, v65, v66, v67, rfl, k0, k1, k2, k3, k4, k5, k6, k7, k8, k9, k10, k11, k12, k13, k14, hW⟩ := hI
        obtain ⟨g67, e67, l67, h67⟩ := k14.out (hall 14 (by decide))
        obtain rfl := k0.out (hall 0 (by decide))
        obtain rfl := k1.out (hall 1 (by decide))
        obtain rfl := k2.out (hall 2 (by decide))
        obtain rfl := k3.out (hall 3 (by decide))
        obtain rfl := k4.out (hall 4 (by decide))
        obtain rfl := k5.out (hall 5 (by decide))
        obtain rfl := k6.out (hall 6 (by decide))
        obtain rfl := k7.out (hall 7 (by decide))
        obtain rfl := k8.out (hall 8 (by decide))
        obtain rfl := k9.out (hall 9 (by decide))
        obtain rfl := k10.out (hall 10 (by decide))
        obtain rfl := k11.out (hall 11 (by decide))
        obtain rfl := k12.out (hall 12 (by decide))
        obtain rfl := k13.out (hall 13 (by decide))
        subst e67
        clear k0 k1 k2 k3 k4 k5 k6 k7 k8 k9 k10 k11 k12 k13 k14 hall
        show wpOps _ _ _ [15, 16] _ _
        dsimp only
        have HC3 := Lib.hid hW
        have H67 := Lib.hid h67
        clear hW h67
        refine wpOps_tail 15 _ rfl rfl ?_
        simp only [List.drop_succ_cons, List.drop_zero]
        go_wp2_with (at_builtin; refine append_step_at rfl (.tmp 53) (.tmp 67) rfl _ w2.heap.size g67 _ _ ⟨op', px, py, 0, ⟨e + x, f + y, g' + x, h' + y⟩⟩ rfl HC3.out.2.2.1 rfl H67.out (by rw [List.length_map, List.length_take]; omega) (Nat.le_trans (Nat.le_of_lt_succ (by have := HC3.out.2.2.2.1.2.2.lt; omega)) (Nat.le_refl _)) ?_; intro v' w5 hown5 hb5 hat5 hkeep5)
        go_roundw
        case rel =>
          have hl2 : w2.heap.size ≤ wr.heap.size := by have := HM.out.2.2.1.2.2.lt; omega
          refine ⟨k + 1, by omega, by go_num, ?_, ?_, ⟨hat5 _ _ _ (by decide) HC3.out.2.2.2.1.1, hat5 _ _ _ (by decide) HC3.out.2.2.2.1.2.1, hat5 _ _ _ (by decide) HC3.out.2.2.2.1.2.2⟩, HC3.out.2.2.2.2.trans (hb5.mono (by omega))⟩
          · rw [HSUC.out.2.2.1]
            have e1 : movS x y (S.calm ⟨op, px, py, n', ⟨e, f, g', h'⟩⟩) = ⟨op', px, py, 0, ⟨e + x, f + y, g' + x, h' + y⟩⟩ := by
              rw [← HOP.out]
              unfold S.calm
              split <;> rfl
            rw [e1]
            exact hown5
          · refine hkeep5 _ _ _ (by have := HC3.out.2.2.2.1.2.2.lt; omega) (fun kk hkk hkk2 => ?_) HC3.out.1
            have e1 : gs = kk := by simpa [Value.ownBlock] using hkk
            have := (World.ownsRow.lt HC3.out.2.2.1 kk hkk2).1
            omega
        case measure => simp [intOf]; omega
    · obtain rfl : k = l.length := by omega
      obtain ⟨mm, hmm⟩ : ∃ mm, mm = l.map fun s => movS x y s.calm := ⟨_, rfl⟩
      obtain ⟨ll, hll⟩ : ∃ ll, ll = l.map S.calm := ⟨_, rfl⟩
      rw [List.take_length, ← hmm] at hmore
      rw [calmTo_all, ← hll] at hown
      have hlm : mm.length = l.length := by rw [hmm, List.length_map]
      have hll2 : ll.length = l.length := by rw [hll, List.length_map]
      obtain ⟨A17, c17, rfl, hS17⟩ := hmore.form
      have hS14 : Steps wr A14 ll := by
        obtain ⟨A', c', e1, hst⟩ := hown.form
        injection e1 with e1
        subst e1
        exact hst
      have hco := fun u (hm : MovMem u w.heap.size (w2.heap.size + 1) x y s0 s1 s2 s3) (hu : Below wr.heap.size wr u) => compared_any s0 s1 s2 s3 (s0 + x) (s1 + y) (s2 + x) (s3 + y) A14 A17 c14 c17 ll mm 24 #[.pointer (some ⟨w.heap.size, 0, none⟩), .pointer (some ⟨w.heap.size + 1, 0, none⟩)] u (hS14.by hu) (hS17.by hu) (by omega) (by omega) (fun _ _ => by kernel_rfl) (by
        intro v hv i _ p q s t p' q' s' t' e1 e2
        have e3 := mov_take HNE.out HNX.out (i + 1)
        rw [← hmm, ← hll, e1] at e3
        rw [show runS (movR x y ⟨s0, s1, s2, s3⟩) (mm.take (i + 1)) = _ from e2] at e3
        exact moved1_any p q s t p' q' s' t' x y _ _ v (hm.1.by hv) (hm.2.1.by hv) e3.2 HXY.out.1 HXY.out.2 e3.1)
      rw [hll2] at hco
      have HCO := Lib.hid hco
      have HME := Lib.hid hmem
      have HB := Lib.hid hbel
      have HMS := Lib.hid (fun w => moved_near s0 s1 s2 s3 x y w ((nearAll_out HNE.out).1.mono (by omega)) HXY.out.1 HXY.out.2)
      clear hco hmore hown hmem hbel hmm hll hlm hll2 hS17 hS14
      go_wp2_with fail
      refine wp_region_tail [[], [], [], [], [1, 2, 3], [], [], [], [0, 1, 2, 3, 4, 5, 6, 7], [0, 1, 2, 3, 4, 5, 6, 7, 8]] (by kernel_rfl) (by kernel_rfl) 10 rfl (by decide) (by decide) (by kernel_rfl)
        (fun L a' u => ∃ v14 v70 v71 v72 v73 v74 v75 v76 v77 v78 : Value, a' = ⟨#[Value.slice A n c, Value.slice A0 n0 c0, Value.slice A1 n1 c1, Value.slice A2 n2 c2, Value.slice A4 n4 c4, .int .i64 x, .int .i64 y, undef, undef, undef, undef, undef, .pointer (some ⟨w.heap.size, 0, none⟩), .pointer (some ⟨w.heap.size + 1, 0, none⟩), v14, .pointer (some ⟨w2.heap.size + 1, 0, none⟩), Value.slice A14 l.length c14, .slice A17 mm.length c17, u18, u19, Value.slice A n c, .agg #[.int .i64 s0, .int .i64 s1, .int .i64 s2, .int .i64 s3], Value.slice A0 n0 c0, Value.slice A1 n1 c1, Value.slice A2 n2 c2, Value.slice A4 n4 c4, Value.slice A14 l.length c14, .slice (some ⟨w2.heap.size, 0, none⟩) 0 0, .agg #[.int .i64 s0, .int .i64 s1, .int .i64 s2, .int .i64 s3], Value.slice A14 l.length c14, .bool true, .bool false, .bool false, .int .i64 x, .int .i64 y, .slice (some ⟨w3.heap.size, 0, none⟩) 2 2, .bool true, .bool false, .bool false, Value.slice A14 l.length c14, .int .i64 ↑l.length, .int .i64 ↑l.length, .bool false, u43, u44, u45, u46, u47, u48, u49, u50, u51, u52, u53, u54, u55, u56, u57, u58, u59, u60, u61, u62, u63, u64, u65, u66, u67, u68, u69, v70, v71, v72, v73, v74, v75, v76, v77, v78], []⟩ ∧
          Hid (L 0 = true → v70 = .agg #[.int .i64 (s0), .int .i64 (s1), .int .i64 (s2), .int .i64 (s3)]) ∧ Hid (L 1 = true → v71 = .agg #[.int .i64 (s0), .int .i64 (s1), .int .i64 (s2), .int .i64 (s3)]) ∧ Hid (L 2 = true → v72 = .int .i64 (x)) ∧ Hid (L 3 = true → v73 = .int .i64 (y)) ∧ Hid (L 4 = true → v74 = .agg #[.int .i64 (s0 + x), .int .i64 (s1 + y), .int .i64 (s2 + x), .int .i64 (s3 + y)]) ∧ Hid (L 5 = true → v75 = Value.slice A14 l.length c14) ∧ Hid (L 6 = true → v76 = .slice A17 mm.length c17) ∧ Hid (L 7 = true → v77 = .func (.func 24) #[] #[.pointer (some ⟨w.heap.size, 0, none⟩), .pointer (some ⟨w.heap.size + 1, 0, none⟩)]) ∧ Hid (L 8 = true → v78 = .bool true) ∧ Hid (L 9 = true → v14 = .bool true) ∧ (MovMem u w.heap.size (w2.heap.size + 1) x y s0 s1 s2 s3 ∧ Below wr.heap.size wr u)) ?_ ?_ ?_
      · refine ⟨_, _, _, _, _, _, _, _, _, _, rfl, (Lib.hid fun h => by cases h), (Lib.hid fun h => by cases h), (Lib.hid fun h => by cases h), (Lib.hid fun h => by cases h), (Lib.hid fun h => by cases h), (Lib.hid fun h => by cases h), (Lib.hid fun h => by cases h), (Lib.hid fun h => by cases h), (Lib.hid fun h => by cases h), (Lib.hid fun h => by cases h), ?_⟩
        exact ⟨MovMem.drew HME.out, (Below.refl _ _).drew⟩
      · intro L a' u i hi hI hL hd
        obtain ⟨v14, v70, v71, v72, v73, v74, v75, v76, v77, v78, rfl, k0, k1, k2, k3, k4, k5, k6, k7, k8, k9, hW⟩ := hI
        obtain rfl | rfl | rfl | rfl | rfl | rfl | rfl | rfl | rfl | rfl : i = 0 ∨ i = 1 ∨ i = 2 ∨ i = 3 ∨ i = 4 ∨ i = 5 ∨ i = 6 ∨ i = 7 ∨ i = 8 ∨ i = 9 := by omega
        · -- operation 0
          obtain ⟨c0, c1, c2, c3⟩ := hW.1.2.2.four.1
          have HW := Lib.hid hW
          clear hW hL hd
          refine wpOp_step rfl fun K hK => ?_
          go_simp
          refine hK _ _ ⟨_, _, _, _, _, _, _, _, _, _, rfl, (Lib.hid fun _ => rfl), k1, k2, k3, k4, k5, k6, k7, k8, k9, HW.out⟩
        · -- operation 1
          obtain ⟨c0, c1, c2, c3⟩ := hW.1.2.2.four.1
          have HW := Lib.hid hW
          clear hW hL hd
          refine wpOp_step rfl fun K hK => ?_
          go_simp
          refine hK _ _ ⟨_, _, _, _, _, _, _, _, _, _, rfl, k0, (Lib.hid fun _ => rfl), k2, k3, k4, k5, k6, k7, k8, k9, HW.out⟩
        · -- operation 2
          have c0 := hW.1.1.cell 0
          have HW := Lib.hid hW
          clear hW hL hd
          refine wpOp_step rfl fun K hK => ?_
          go_simp
          refine hK _ _ ⟨_, _, _, _, _, _, _, _, _, _, rfl, k0, k1, (Lib.hid fun _ => rfl), k3, k4, k5, k6, k7, k8, k9, HW.out⟩
        · -- operation 3
          have c0 := hW.1.2.1.cell 0
          have HW := Lib.hid hW
          clear hW hL hd
          refine wpOp_step rfl fun K hK => ?_
          go_simp
          refine hK _ _ ⟨_, _, _, _, _, _, _, _, _, _, rfl, k0, k1, k2, (Lib.hid fun _ => rfl), k4, k5, k6, k7, k8, k9, HW.out⟩
        · -- operation 4
          obtain rfl := k1.out (hd 1 (by decide))
          obtain rfl := k2.out (hd 2 (by decide))
          obtain rfl := k3.out (hd 3 (by decide))
          have HW := Lib.hid hW
          clear hW hL hd
          refine wpOp_step rfl fun K hK => ?_
          go_simp
          go_at_call 23
          refine (HMS.out _).mono ?_
          rintro _ w' ⟨rfl, hb⟩
          refine hK _ _ ⟨_, _, _, _, _, _, _, _, _, _, rfl, k0, k1, k2, k3, (Lib.hid fun _ => rfl), k5, k6, k7, k8, k9, ⟨HW.out.1.by hb, HW.out.2.trans (hb.mono HW.out.2.size)⟩⟩
        · -- operation 5
          have HW := Lib.hid hW
          clear hW hL hd
          refine wpOp_step rfl fun K hK => ?_
          go_simp
          refine hK _ _ ⟨_, _, _, _, _, _, _, _, _, _, rfl, k0, k1, k2, k3, k4, (Lib.hid fun _ => rfl), k6, k7, k8, k9, HW.out⟩
        · -- operation 6
          have HW := Lib.hid hW
          clear hW hL hd
          refine wpOp_step rfl fun K hK => ?_
          go_simp
          refine hK _ _ ⟨_, _, _, _, _, _, _, _, _, _, rfl, k0, k1, k2, k3, k4, k5, (Lib.hid fun _ => rfl), k7, k8, k9, HW.out⟩
        · -- operation 7
          have HW := Lib.hid hW
          clear hW hL hd
          refine wpOp_step rfl fun K hK => ?_
          go_simp
          refine hK _ _ ⟨_, _, _, _, _, _, _, _, _, _, rfl, k0, k1, k2, k3, k4, k5, k6, (Lib.hid fun _ => rfl), k8, k9, HW.out⟩
        · -- operation 8
          obtain rfl := k0.out (hd 0 (by decide))
          obtain rfl := k4.out (hd 4 (by decide))
          obtain rfl := k5.out (hd 5 (by decide))
          obtain rfl := k6.out (hd 6 (by decide))
          obtain rfl := k7.out (hd 7 (by decide))
          have HW := Lib.hid hW
          clear hW hL hd
          refine wpOp_step rfl fun K hK => ?_
          go_simp
          go_at_call 20
          refine (HCO.out _ HW.out.1 HW.out.2).mono ?_
          rintro _ w' ⟨rfl, hb⟩
          refine hK _ _ ⟨_, _, _, _, _, _, _, _, _, _, rfl, k0, k1, k2, k3, k4, k5, k6, k7, (Lib.hid fun _ => rfl), k9, ⟨HW.out.1.by hb, HW.out.2.trans (hb.mono HW.out.2.size)⟩⟩
        · -- operation 9
          obtain rfl := k8.out (hd 8 (by decide))
          have HW := Lib.hid hW
          clear hW hL hd
          refine wpOp_step rfl fun K hK => ?_
          go_simp
          refine hK _ _ ⟨_, _, _, _, _, _, _, _, _, _, rfl, k0, k1, k2, k3, k4, k5, k6, k7, k8, (Lib.hid fun _ => rfl), HW.out⟩
      intro L a' u hI hall
      obtain ⟨v14, v70, v71, v72, v73, v74, v75, v76, v77, v78, rfl, k0, k1, k2, k3, k4, k5, k6, k7, k8, k9, hW⟩ := hI
      obtain rfl := k0.out (hall 0 (by decide))
      obtain rfl := k1.out (hall 1 (by decide))
      obtain rfl := k2.out (hall 2 (by decide))
      obtain rfl := k3.out (hall 3 (by decide))
      obtain rfl := k4.out (hall 4 (by decide))
      obtain rfl := k5.out (hall 5 (by decide))
      obtain rfl := k6.out (hall 6 (by decide))
      obtain rfl := k7.out (hall 7 (by decide))
      obtain rfl := k8.out (hall 8 (by decide))
      obtain rfl := k9.out (hall 9 (by decide))
      clear k0 k1 k2 k3 k4 k5 k6 k7 k8 k9 hall
      show wpOps _ _ _ [] _ _
      unfold wpOps
      dsimp only
      have HW := Lib.hid hW
      clear hW
      go_wp2
      go_ret
      exact ⟨rfl, HB.out.trans (HW.out.2.mono HB.out.size)⟩
end Go.Proofs.Ytenhhkeajhkfoaa
