/- The contract of the laws' function rects: a rectangle for each row. Conditions: at most 5864062014634 rows. -/
import Derived.Test.YtojplcchoffapaaRect
import Derived.Test.YtojplcchoffapaaLists
import Derived.LoopTactic
import Derived.Deep.DeepAppendWide
namespace Go.Proofs.Ytojplcchoffapaa
open Go.RowKit

theorem infoRect : (Try.prog.info? 24).map (fun i => (i.zero, i.size, i.bytes)) = some (some (.agg #[.int .i64 0, .int .i64 0, .int .i64 0, .int .i64 0]), 4, 32) := by kernel_rfl

theorem take_map_snoc {α β : Type} (f : α → β) (l : List α) (k : Nat) (h : k < l.length) : (l.take (k + 1)).map f = (l.take k).map f ++ [f l[k]] := by
  rw [List.take_succ_eq_append_getElem h, List.map_append]
  rfl

/-- append of one rectangle to a slice of the call's own -/
theorem append_rect {ops : Array Oper} {rest : List Oper} {o : Oper} {a : Act} {Q : Exit → Act → World → Prop} (hgd : o.guard = none) (s x : Operand)
    (ho : o.op = .call { callee := .builtin .append, args := #[s, x], argTypes := #[42, 42] }) (w : World) (base : Nat) (v : Value) (l : List R) (r : R)
    (hs : a.eval s = v) (hown : Own w base v l) (hx : a.eval x = .slice (some ⟨w.heap.size, 0, none⟩) 1 1) (hlen : l.length ≤ 5864062014634) (hbase : base ≤ w.heap.size)
    (h : ∀ v' w', Own w' base v' (l ++ [r]) → Below base w w' → (∀ g t vs, t ≠ 24 → At w g t vs → At w' g t vs) → wpList Try.prog ops Q rest (a.put o.dst v') w') :
    wpList Try.prog ops Q (o :: rest) a (w.alloc (.cells #[.int .i64 r.x0, .int .i64 r.y0, .int .i64 r.x1, .int .i64 r.y1] 24)) := by
  obtain ⟨i0, hi0, hz0, hz1, hz2⟩ := info_parts infoRect
  refine wpList_append_own_wide _ hgd s x _ ho base 24 i0 _ 4 32 Try.underlying42 hi0 hz0 hz1 hz2 rfl (by omega) v l.length (flat l) hs (hown.alloc _) ⟨w.heap.size, 0, none⟩ 1 1 (flat1 r) hx rfl ?_ ?_ (by simp only [maxLen]; omega) (by omega) (by simp; omega) ?_
  · intro j u hu
    rw [add_off, Nat.zero_add]
    have := (At.new w 24 (flat1 r)).cell j
    rw [hu] at this
    exact this
  · intro u hu
    exact flat_one [r] u (by simpa [flat] using hu)
  · intro v' w' hown' hg _
    refine h v' w' ?_ ?_ ?_
    · unfold Own
      rw [flat_snoc, List.length_append]
      exact hown'
    · refine ((Below.refl _ _).alloc hbase _).grown hg (by simp; omega) (fun k hk => ?_)
      exact ((hown.alloc (.cells #[.int .i64 r.x0, .int .i64 r.y0, .int .i64 r.x1, .int .i64 r.y1] 24) : Own _ _ _ _) |> fun hh => (World.ownsRow.lt hh k hk).1)
    · intro g t vs ht hg2
      refine (hg.block g (by have := hg2.lt; rw [size_alloc]; omega) (fun e => ?_)).trans (hg2.alloc _)
      rcases hown.2 with ⟨rfl, _⟩ | ⟨k, cap, cur, rfl, hk, hh, _⟩
      · simp [Value.ownBlock] at e
      · have hkg : g = k := by simpa [Value.ownBlock] using e
        subst hkg
        unfold At at hg2
        rw [hh] at hg2
        injection hg2 with hg2
        injection hg2 with _ e2
        exact ht e2.symm

/-- a block of another type is written: what is owned stays owned -/
theorem own_set4 {u : World} {base g : Nat} {v : Value} {l : List R} {t : TypeId} {vs : List Value} (h : Own u base v l) (hg : At u g t vs) (ht : t ≠ 24) (a b c d : Value) :
    Own ((((u.setCell ⟨g, 0, none⟩ a).setCell ⟨g, 1, none⟩ b).setCell ⟨g, 2, none⟩ c).setCell ⟨g, 3, none⟩ d) base v l := by
  refine ⟨h.1, ?_⟩
  rcases h.2 with h2 | ⟨k, cap, cur, hv, hk, hh, r⟩
  · exact .inl h2
  · have hne : k ≠ g := by
      rintro rfl
      unfold At at hg
      rw [hh] at hg
      injection hg with hg
      injection hg with _ e
      exact ht e.symm
    refine .inr ⟨k, cap, cur, hv, hk, ?_, r⟩
    rw [Below.heap_setCell _ _ _ _ hne, Below.heap_setCell _ _ _ _ hne, Below.heap_setCell _ _ _ _ hne, Below.heap_setCell _ _ _ _ hne]
    exact hh
theorem own_empty (w : World) : Own (w.alloc (.cells #[] 24)) w.heap.size (.slice (some ⟨w.heap.size, 0, none⟩) 0 0) [] :=
  ⟨rfl, .inr ⟨_, 0, #[], rfl, Nat.le_refl _, heap_alloc_new _ _, Nat.le_refl _, Nat.zero_le _, rfl, rfl⟩⟩

set_option maxHeartbeats 2000000 in
theorem rects_any (A : Option Addr) (n c : Nat) (zss : List (List Int)) (w : World) (hz : RowsAt w A n zss) (hn : n ≤ 5864062014634) :
    Calls Try.prog 23 #[.slice A n c] w (RetL (zss.map rectOf) w) := by
  have HZ := Lib.hid hz
  clear hz
  go_enter Try.func23, Try.ntmps23
  go_wp2
  go_loopw [3, 9] (fun v i wr => ∃ k : Nat, k ≤ n ∧ i = .int .i64 k ∧ Own wr w.heap.size v ((zss.take k).map rectOf) ∧ Below w.heap.size w wr) (fun _ i _ => n - (intOf i).toNat)
  case atStart => exact ⟨0, Nat.zero_le _, rfl, own_empty w, (Below.refl _ _).alloc (Nat.le_refl _) _⟩
  case round =>
    obtain ⟨k, hk, rfl, hown, hbel⟩ := hrel
    have HO := Lib.hid hown
    have HB := Lib.hid hbel
    clear hown hbel
    by_cases hlt : k < n
    · have hl := HZ.out.1
      obtain ⟨b, o, rfl, hb, hc⟩ := ((HZ.out.by HB.out).2 (by omega))
      obtain ⟨Ai, ni, ci, hcell, hints⟩ := hc k hlt
      have HN := Lib.hid hints
      have HL := Lib.hid hl
      clear hints hc hb hl
      go_wp2_with fail
      refine (lrect_any Ai ni ci _ _ HN.out).mono ?_
      rintro _ w1 ⟨rfl, hb1⟩
      have HO1 := Lib.hid (HO.out.by hb1)
      have HB1 := Lib.hid (HB.out.trans (hb1.mono HB.out.size))
      clear hb1 hcell
      go_wp2_with (at_builtin; refine append_rect rfl (.tmp 13) (.tmp 16) rfl w1 w.heap.size _ _ (rectOf (zss.getD k [])) rfl HO1.out rfl (by simp; omega) HB1.out.size ?_; intro v' w2 hown2 hb2 _)
      go_roundw
      case rel =>
        refine ⟨k + 1, by omega, by go_num, ?_, HB1.out.trans hb2⟩
        rw [take_map_snoc _ _ _ (by rw [HL.out]; exact hlt)]
        simpa [HL.out, hlt] using hown2
      case measure => simp [intOf]; omega
    · obtain rfl : k = n := by omega
      go_wp2
      go_ret
      refine ⟨_, rfl, ?_, HB.out⟩
      have := HO.out
      rwa [List.take_of_length_le (by have := HZ.out.1; omega)] at this
end Go.Proofs.Ytojplcchoffapaa
