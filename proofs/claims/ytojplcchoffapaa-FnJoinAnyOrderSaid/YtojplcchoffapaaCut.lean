/- A slice of rectangles less one: append onto a slice without room. Conditions: at most 5864062014634 rectangles. -/
import Derived.Test.YtojplcchoffapaaAppend
import Derived.Maps.AppendAt
import Derived.ArgAppend
namespace Go.Proofs.Ytojplcchoffapaa
open Go.RowKit

theorem own_left {w : World} {base : Nat} {v : Value} {l : List R} (h : Own w base v ([] ++ l)) : ∃ A c, v = .slice A l.length c ∧ Rects w A l ∧ (A = none → c = 0) ∧ l.length ≤ c ∧ (∀ g o, A = some ⟨g, o, none⟩ → g < w.heap.size) := by
  rw [List.nil_append] at h
  obtain ⟨A, c, rfl, hR, hc⟩ := h.form'
  refine ⟨A, c, rfl, hR, hc, ?_, ?_⟩
  · rcases h.2 with ⟨e, h0⟩ | ⟨g, cap, cur, e, _, _, hn, _⟩
    · injection e with _ e2
      omega
    · injection e with _ _ e3
      omega
  · intro g o e
    subst e
    exact (World.ownsRow.lt h g rfl).2
theorem flat_take (l : List R) (k : Nat) : flat (l.take k) = (flat l).take (k * 4) := by
  induction l generalizing k with
  | nil => simp [flat]
  | cons s l ih =>
    cases k with
    | zero => simp [flat]
    | succ k =>
      have h := ih k
      have e : (k + 1) * 4 = k * 4 + 4 := by omega
      simp only [flat] at h
      simp only [flat, List.take_succ_cons, List.flatMap_cons, h, e]
      rw [show flat1 s ++ List.take (k * 4) (l.flatMap flat1) = (flat1 s ++ l.flatMap flat1).take (k * 4 + 4) by
        rw [List.take_append]
        simp [flat1]]
theorem flat_drop (l : List R) (k : Nat) : flat (l.drop k) = (flat l).drop (k * 4) := by
  induction l generalizing k with
  | nil => simp [flat]
  | cons s l ih =>
    cases k with
    | zero => simp [flat]
    | succ k =>
      have h := ih k
      have e : (k + 1) * 4 = k * 4 + 4 := by omega
      simp only [flat] at h
      simp only [flat, List.drop_succ_cons, List.flatMap_cons, h, e]
      rw [List.drop_append]
      simp [flat1]
theorem Rects.take {w : World} {A : Option Addr} {l : List R} (h : Rects w A l) (k : Nat) : Rects w A (l.take k) := by
  intro h0
  obtain ⟨g, o, e, hg, hc⟩ := h (by rw [List.length_take] at h0; omega)
  refine ⟨g, o, e, hg, fun j u hu => hc j u ?_⟩
  rw [flat_take, List.getElem?_take] at hu
  split at hu
  · exact hu
  · cases hu
/-- the address behind k rectangles, as slicing makes it -/
def behindR (A : Option Addr) (c k : Nat) : Option Addr := if c = k then A else A.map (·.add (k * 4))
theorem Rects.drop {w : World} {A : Option Addr} {l : List R} (h : Rects w A l) (k c : Nat) (hc : l.length ≤ c) : Rects w (behindR A c k) (l.drop k) := by
  intro h0
  rw [List.length_drop] at h0
  obtain ⟨g, o, rfl, hg, hcell⟩ := h (by omega)
  refine ⟨g, o + k * 4, ?_, hg, fun j u hu => ?_⟩
  · unfold behindR
    rw [if_neg (by omega)]
    simp only [Option.map_some, add_off]
  · rw [flat_drop, List.getElem?_drop] at hu
    have := hcell _ u hu
    rwa [show o + k * 4 + j = o + (k * 4 + j) by omega]

/-- append onto a slice without room: a new slice, or, where nothing is appended, the slice itself -/
theorem append_cut {ops : Array Oper} {rest : List Oper} {o : Oper} {a : Act} {Q : Exit → Act → World → Prop} (hgd : o.guard = none) (s x : Operand)
    (ho : o.op = .call { callee := .builtin .append, args := #[s, x], argTypes := #[42, 42] }) (w : World) (g o1 n : Nat) (l1 l2 : List R) (ad : Addr) (m c : Nat)
    (hs : a.eval s = .slice (some ⟨g, o1, none⟩) n n) (hx : a.eval x = .slice (some ad) m c) (hn : l1.length = n) (hm : l2.length = m) (h1 : Rects w (some ⟨g, o1, none⟩) l1) (h2 : Rects w (some ad) l2) (hg : g < w.heap.size) (hlen : n + m ≤ 5864062014634)
    (h : ∀ A' c' w', Rects w' A' (l1 ++ l2) → n + m ≤ c' → (A' = none → c' = 0) → (∀ g' o', A' = some ⟨g', o', none⟩ → g' < w'.heap.size ∧ (g' = g ∨ w.heap.size ≤ g')) → w.grownBy w' none → wpList Try.prog ops Q rest (a.put o.dst (.slice A' (n + m) c')) w') :
    wpList Try.prog ops Q (o :: rest) a w := by
  obtain ⟨i0, hi0, hz0, hz1, hz2⟩ := info_parts infoRect
  refine wpList_plain hgd fun K hK => ?_
  have hnews : ∀ j u, (flat l2)[j]? = some u → w.cell? (ad.add j) = some u := by
    intro j u hu
    have hj : j < (flat l2).length := (List.getElem?_eq_some_iff.1 hu).1
    rw [flat_length] at hj
    obtain ⟨g2, o2, e, _, hcell⟩ := h2 (by omega)
    injection e with e
    subst e
    rw [add_off]
    exact hcell j u hu
  have holds : ∀ j u, (flat l1)[j]? = some u → w.cell? ((⟨g, o1, none⟩ : Addr).add j) = some u := by
    intro j u hu
    have hj : j < (flat l1).length := (List.getElem?_eq_some_iff.1 hu).1
    rw [flat_length] at hj
    obtain ⟨g2, o2, e, _, hcell⟩ := h1 (by omega)
    injection e with e
    rw [e, add_off]
    exact hcell j u hu
  by_cases hm0 : m = 0
  · subst hm0
    have hl2 : l2 = [] := List.eq_nil_of_length_eq_zero hm
    subst hl2
    have hr := run_append_room_cells (P := Try.prog) w 42 o.type 24 i0 Try.underlying42 hi0 g o1 n n ad 0 c [] (by simp) (by simp) (by simp) (by omega) (by simp) (by simp)
    have e0 : w.setCells g (o1 + n * i0.size) [] = w := rfl
    rw [e0] at hr
    unfold Oper.wp execOp
    simp only [ho, resolve, invoke, builtin, Sem.run_bind, Sem.run_pure, Result.andThen_ok, List.map_toArray, List.map_cons, List.map_nil, hs, hx, hr]
    refine hK _ _ (h (some ⟨g, o1, none⟩) n w (by rw [List.append_nil]; exact h1) (by omega) (fun e => by cases e) (fun g' o' e => ?_) ⟨rfl, rfl, rfl, Nat.le_refl _, fun _ _ _ => rfl⟩)
    simp only [Option.some.injEq, Addr.mk.injEq, and_true] at e
    obtain ⟨rfl, rfl⟩ := e
    exact ⟨hg, .inl rfl⟩
  · have hr := run_append_grow (P := Try.prog) w 42 o.type 24 i0 _ Try.underlying42 hi0 hz0 ⟨g, o1, none⟩ n n (flat l1) (by rw [flat_length, hn, hz1]) holds ad m c (flat l2) (by rw [flat_length, hm, hz1]) hnews (by omega) (by omega) (by rw [hz2]; exact growslice_fits_wide (by omega) (by omega))
    unfold Oper.wp execOp
    simp only [ho, resolve, invoke, builtin, Sem.run_bind, Sem.run_pure, Result.andThen_ok, List.map_toArray, List.map_cons, List.map_nil, hs, hx, hr]
    refine hK _ _ (h (some ⟨w.heap.size, 0, none⟩) _ _ ?_ (grownCap_ge w (n + m) n _) (fun e => by cases e) (fun g' o' e => ?_) ⟨rfl, rfl, rfl, by simp, fun k hk _ => heap_alloc_old w.drew _ hk⟩)
    · intro h0
      refine ⟨w.heap.size, 0, rfl, by simp, fun j u hu => ?_⟩
      rw [cell_of_row _ w.heap.size (0 + j) _ _ (0, 0) (heap_alloc_new w.drew _)]
      have hj : j < (flat (l1 ++ l2)).length := (List.getElem?_eq_some_iff.1 hu).1
      rw [flat_append] at hu hj
      rw [Nat.zero_add, Array.getElem?_append_left (by simp at hj ⊢; omega)]
      simpa using hu
    · simp only [Option.some.injEq, Addr.mk.injEq, and_true] at e
      obtain ⟨rfl, rfl⟩ := e
      exact ⟨by simp, .inr (Nat.le_refl _)⟩

/-- where the slice lies that an append of rectangles leaves -/
theorem rect_lies {w : World} {base n m c : Nat} {v : Value} {ty : TypeId} {xs news : List Value} (hown : w.ownsRow base 24 4 v n xs) (ad : Addr) (hl : news.length = m * 4) (hnews : ∀ j u, news[j]? = some u → w.cell? (ad.add j) = some u) (h1 : ∀ u ∈ news, u.oneCell' = true)
    (hm : 0 < m) (hb : n + m ≤ 5864062014635) {v' : Value} {w' : World} (hr : (Builtin.append_ #[42, 42] ty #[v, .slice (some ad) m c]).run Try.prog w = .ok v' w') : v'.ownBlock = v.ownBlock ∨ v'.ownBlock = some w.heap.size := by
  obtain ⟨i0, hi0, hz0, hz1, hz2⟩ := info_parts infoRect
  rcases hown.2 with ⟨rfl, rfl⟩ | ⟨g, cap, cur, rfl, hbg, hg, hnc, hcm, hcs, htake⟩
  · have h2 := run_append_nil (P := Try.prog) w 42 ty 24 i0 _ Try.underlying42 hi0 hz0 ad m c news (by rw [hl, hz1]) hnews hm (by omega) (by rw [hz2]; omega)
    rw [hr] at h2
    injection h2 with h2
    rw [h2]
    exact .inr rfl
  · by_cases hroom : n + m ≤ cap
    · have h2 := run_append_room (P := Try.prog) w 42 ty 24 i0 Try.underlying42 hi0 g n cap cur hg ad m c news (by rw [hl, hz1]) hnews h1 hroom (by rw [hl, hz1, hcs, ← Nat.add_mul]; exact Nat.mul_le_mul_right _ hroom)
      rw [hr] at h2
      injection h2 with h2
      rw [h2]
      exact .inl rfl
    · have h2 := run_append_grow (P := Try.prog) w 42 ty 24 i0 _ Try.underlying42 hi0 hz0 ⟨g, 0, none⟩ n cap xs (by rw [hown.1, hz1]) (hown.cells (g := g) rfl) ad m c news (by rw [hl, hz1]) hnews (by omega) (by omega) (by rw [hz2]; exact growslice_fits_wide (by omega) (by omega))
      rw [hr] at h2
      injection h2 with h2
      rw [h2]
      exact .inr rfl

/-- append of one rectangle that lies in a block of its own: what is kept, and where the new slice lies -/
theorem append_rect_gr {ops : Array Oper} {rest : List Oper} {o : Oper} {a : Act} {Q : Exit → Act → World → Prop} (hgd : o.guard = none) (s x : Operand)
    (ho : o.op = .call { callee := .builtin .append, args := #[s, x], argTypes := #[42, 42] }) (w : World) (base g : Nat) (v : Value) (l : List R) (r : R)
    (hs : a.eval s = v) (hown : Own w base v l) (hx : a.eval x = .slice (some ⟨g, 0, none⟩) 1 1) (hg : At w g 24 (flat1 r)) (hlen : l.length ≤ 5864062014634) (hbase : base ≤ w.heap.size)
    (h : ∀ v' w', Own w' base v' (l ++ [r]) → w.grownBy w' v.ownBlock → (v'.ownBlock = v.ownBlock ∨ v'.ownBlock = some w.heap.size) → Below base w w' → wpList Try.prog ops Q rest (a.put o.dst v') w') :
    wpList Try.prog ops Q (o :: rest) a w := by
  obtain ⟨i0, hi0, hz0, hz1, hz2⟩ := info_parts infoRect
  have hnews : ∀ j u, (flat1 r)[j]? = some u → w.cell? ((⟨g, 0, none⟩ : Addr).add j) = some u := by
    intro j u hu
    rw [add_off, Nat.zero_add]
    have := hg.cell j
    rw [hu] at this
    exact this
  have hone : ∀ u ∈ flat1 r, u.oneCell' = true := fun u hu => flat_one [r] u (by simpa [flat] using hu)
  refine wpList_plain hgd fun K hK => ?_
  obtain ⟨v', w', hr, hown', hgr, -⟩ := run_append_own_wide (P := Try.prog) w base 42 o.type 24 i0 _ 4 32 Try.underlying42 hi0 hz0 hz1 hz2 rfl (by omega) v l.length (flat l) hown ⟨g, 0, none⟩ 1 1 (flat1 r) rfl hnews hone (by simp only [maxLen]; omega) (by omega) hbase
  have hlies := rect_lies hown ⟨g, 0, none⟩ (by rfl) hnews hone (by omega) (by omega) hr
  unfold Oper.wp execOp
  simp only [ho, resolve, invoke, builtin, Sem.run_bind, Sem.run_pure, Result.andThen_ok, List.map_toArray, List.map_cons, List.map_nil, hs, hx, hr]
  refine hK _ _ (h v' w' ?_ hgr hlies ((Below.refl _ _).grown hgr hbase (fun k hk => (World.ownsRow.lt hown k hk).1)))
  unfold Own
  rw [flat_snoc, List.length_append]
  exact hown'
/-- what is read in a block that the append leaves alone -/
theorem Rects.grown {w w' : World} {row : Option Nat} (hg : w.grownBy w' row) {A : Option Addr} {l : List R} (h : Rects w A l) (hne : ∀ g o, A = some ⟨g, o, none⟩ → row ≠ some g) : Rects w' A l := by
  intro h0
  obtain ⟨g, o, rfl, hlt, hc⟩ := h h0
  refine ⟨g, o, rfl, Nat.lt_of_lt_of_le hlt hg.size, fun j u hu => ?_⟩
  rw [World.cell?_of_block (a := ⟨g, o + j, none⟩) (hg.block g hlt (Ne.symm (hne g o rfl)))]
  exact hc j u hu
theorem perm_out (lo ll : List R) (q : Nat) (hq : q < ll.length) : ((lo ++ [ll[q]]) ++ (ll.take q ++ ll.drop (q + 1))).Perm (lo ++ ll) := by
  have e : ll = ll.take q ++ ll[q] :: ll.drop (q + 1) := by
    rw [← List.drop_eq_getElem_cons hq, List.take_append_drop]
  have h1 : (ll[q] :: (ll.take q ++ ll.drop (q + 1))).Perm (ll.take q ++ ll[q] :: ll.drop (q + 1)) := List.perm_middle.symm
  rw [← e] at h1
  rw [List.append_assoc]
  exact (List.Perm.append_left lo h1)
/-- the place that the law reckons -/
theorem place (n : Int) (m : Nat) (h0 : 0 < m) (hm : m ≤ 5864062014634) : ∃ q : Nat, q < m ∧ (wrap64 (n.tmod m + m)).tmod m = q := by
  have h1 : -(m : Int) < n.tmod m ∧ n.tmod m < m := by
    rcases Int.le_total 0 n with h | h
    · rw [Int.tmod_eq_emod_of_nonneg h]
      have := Int.emod_nonneg n (show (m : Int) ≠ 0 by omega)
      have := Int.emod_lt_of_pos n (show (0 : Int) < m by omega)
      omega
    · have e : n.tmod m = -((-n).tmod m) := by rw [Int.neg_tmod]; omega
      rw [e, Int.tmod_eq_emod_of_nonneg (by omega)]
      have := Int.emod_nonneg (-n) (show (m : Int) ≠ 0 by omega)
      have := Int.emod_lt_of_pos (-n) (show (0 : Int) < m by omega)
      omega
  generalize n.tmod m = t at h1
  rw [IntWalk.wrap64_in _ (by omega), Int.tmod_eq_emod_of_nonneg (by omega)]
  have h2 := Int.emod_nonneg (t + m) (show (m : Int) ≠ 0 by omega)
  have h3 := Int.emod_lt_of_pos (t + m) (show (0 : Int) < m by omega)
  exact ⟨((t + m) % m).toNat, by omega, by omega⟩
end Go.Proofs.Ytojplcchoffapaa
