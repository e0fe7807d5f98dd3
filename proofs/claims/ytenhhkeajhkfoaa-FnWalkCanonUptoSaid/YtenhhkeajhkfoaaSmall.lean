/- The contracts of spec.Small and of the laws' function small. Conditions: the bound lies from 0 to 2^62; at most 2097152 steps. -/
import Derived.Test.YtenhhkeajhkfoaaNums
import Derived.Test.YtenhhkeajhkfoaaOwnS
namespace Go.Proofs.Ytenhhkeajhkfoaa
open Go.RowKit

def okB (m n : Int) : Bool := decide (-m ≤ n) && decide (n ≤ m)
def allB (m : Int) (zs : List Int) : Bool := zs.all (okB m)
theorem all_take_succ {α : Type} (p : α → Bool) (l : List α) (k : Nat) (h : k < l.length) : (l.take (k + 1)).all p = ((l.take k).all p && p l[k]) := by
  rw [List.take_succ_eq_append_getElem h, List.all_append]
  simp
theorem all_false_of {α : Type} (p : α → Bool) (l : List α) (k : Nat) (h : k < l.length) (hp : p l[k] = false) : l.all p = false := by
  rw [List.all_eq_false]
  exact ⟨l[k], List.getElem_mem h, by simp [hp]⟩
theorem okB_iff (m n : Int) : okB m n = true ↔ -m ≤ n ∧ n ≤ m := by simp [okB]

set_option maxHeartbeats 1000000 in
theorem Small_any (m : Int) (A : Option Addr) (n c : Nat) (zs : List Int) (w : World) (hz : Ints w A n zs) (hm : 0 ≤ m) (hm2 : m < 4611686018427387904) (hn : n ≤ 1048576) :
    Calls Try.prog 22 #[.int .i64 m, .slice A n c] w fun e w' => e = .returned (.bool (allB m zs)) ∧ Below w.heap.size w w' := by
  have HZ := Lib.hid hz
  clear hz
  have hneg : IntKind.i64.wrap (-m) = -m := IntWalk.i64_in _ (by omega)
  go_enter Try.func22, Try.ntmps22
  go_wp2
  go_loopw [9] (fun i wr => ∃ k : Nat, k ≤ n ∧ i = .int .i64 k ∧ (zs.take k).all (okB m) = true ∧ Below w.heap.size w wr) (fun i _ => n - (intOf i).toNat)
  case atStart => exact ⟨0, Nat.zero_le _, rfl, by simp, Below.refl _ _⟩
  case round =>
    obtain ⟨k, hk, rfl, hall, hbel⟩ := hrel
    by_cases hlt : k < n
    · obtain ⟨g, o, rfl, _, hc⟩ := (HZ.out.below (Nat.le_refl _) hbel).at_ hlt
      have hlen := HZ.out.1
      have hs := all_take_succ (okB m) zs k (by omega)
      have hfa := all_false_of (okB m) zs k (by omega)
      have hget : zs.getD k 0 = zs[k]'(by omega) := by simp [hlen, hlt]
      rw [hget] at hc
      generalize zs[k]'(by omega) = v at hs hfa hc
      rw [hall, Bool.true_and] at hs
      have HB := Lib.hid hbel
      have HS := Lib.hid hs
      have HFA := Lib.hid hfa
      clear hbel hs hfa hall hlen hget
      by_cases h1 : v < -m
      · go_wp2
        go_ret
        exact ⟨by rw [show allB m zs = false from HFA.out (by simp [okB]; omega)]; rfl, HB.out⟩
      by_cases h2 : m < v
      · go_wp2
        go_ret
        exact ⟨by rw [show allB m zs = false from HFA.out (by simp [okB]; omega)]; rfl, HB.out⟩
      · go_wp2
        go_roundw
        case rel => exact ⟨k + 1, by omega, by go_num, by rw [HS.out, okB_iff]; omega, HB.out⟩
        case measure => simp [intOf]; omega
    · obtain rfl : k = n := by omega
      have HB := Lib.hid hbel
      have HAL := Lib.hid hall
      clear hbel hall
      go_wp2
      go_ret
      refine ⟨?_, HB.out⟩
      have h := HAL.out
      rw [List.take_of_length_le (by have := HZ.out.1; omega)] at h
      rw [show allB m zs = true from h]
      rfl

/-- near numbers alone, in a rectangle, in a step -/
def nearR (r : R) : Bool := allB 1125899906842624 [r.x0, r.y0, r.x1, r.y1]
def nearS (s : S) : Bool := allB 1125899906842624 [s.px, s.py, s.n] && nearR s.r
def nearAll (r : R) (l : List S) : Bool := nearR r && decide (l.length ≤ 100) && l.all nearS
theorem At.ints {w : World} {g : Nat} {zs : List Int} (h : At w g 3 (zs.map (Value.int .i64))) : Ints w (some ⟨g, 0, none⟩) zs.length zs := by
  refine ⟨rfl, fun _ => ⟨g, 0, rfl, h.lt, fun i hi => ?_⟩⟩
  rw [Nat.zero_add, h.cell i]
  simp [hi]

set_option maxHeartbeats 2000000 in
theorem small_any (a b c d : Int) (A1 : Option Addr) (c1 : Nat) (l : List S) (w : World) (hz : Steps w A1 l) (hn : l.length ≤ 2097152) :
    Calls Try.prog 17 #[.agg #[.int .i64 a, .int .i64 b, .int .i64 c, .int .i64 d], .slice A1 l.length c1] w fun e w' => e = .returned (.bool (nearAll ⟨a, b, c, d⟩ l)) ∧ Below w.heap.size w w' := by
  have HZ := Lib.hid hz
  clear hz
  obtain ⟨n0, hn0⟩ : ∃ n0, allB 1125899906842624 [a, b, c, d] = n0 := ⟨_, rfl⟩
  have HN0 := Lib.hid hn0
  clear hn0
  go_enter Try.func17, Try.ntmps17
  go_wp2_with fail
  refine (numbers_any _ _ _ _ _).mono ?_
  rintro _ w1 ⟨g, rfl, hg, hb1⟩
  have HS1 := Lib.hid (Small_any 1125899906842624 _ 4 4 _ w1 (At.ints (zs := [a, b, c, d]) hg) (by omega) (by omega) (by omega))
  rw [HN0.out] at HS1
  have HB1 := Lib.hid (((Below.refl w.heap.size w).alloc (Nat.le_refl _) (.cells #[.int .i64 a, .int .i64 b, .int .i64 c, .int .i64 d] 25)).trans (hb1.mono (by simp)))
  clear hg hb1
  go_wp2_with fail
  refine HS1.out.mono ?_
  rintro _ w2 ⟨rfl, hb2⟩
  have HB2 := Lib.hid (HB1.out.trans (hb2.mono HB1.out.size))
  clear hb2 HS1 HB1
  cases n0 with
  | false =>
    go_wp2
    go_ret
    exact ⟨by rw [show nearAll ⟨a, b, c, d⟩ l = false by unfold nearAll; rw [show nearR ⟨a, b, c, d⟩ = false from HN0.out]; rfl]; rfl, HB2.out⟩
  | true =>
    by_cases h100 : 100 < l.length
    · go_wp2
      go_ret
      exact ⟨by rw [show nearAll ⟨a, b, c, d⟩ l = false by unfold nearAll; rw [decide_eq_false (by omega)]; simp]; rfl, HB2.out⟩
    have hna : nearAll ⟨a, b, c, d⟩ l = l.all nearS := by unfold nearAll; rw [show nearR ⟨a, b, c, d⟩ = true from HN0.out, decide_eq_true (by omega)]; simp
    have HNA := Lib.hid hna
    clear hna
    go_wp2
    go_loopw [18] (fun i wr => ∃ k : Nat, k ≤ l.length ∧ i = .int .i64 k ∧ (l.take k).all nearS = true ∧ Below w.heap.size w wr) (fun i _ => l.length - (intOf i).toNat)
    case atStart => exact ⟨0, Nat.zero_le _, rfl, by simp, HB2.out⟩
    case round =>
      obtain ⟨k, hk, rfl, hall, hbel⟩ := hrel
      by_cases hlt : k < l.length
      · obtain ⟨g, o, rfl, _, y0, y1, y2, y3, y4, y5, y6, y7⟩ := Steps.at_ (HZ.out.by hbel) hlt
        have hs := all_take_succ nearS l k hlt
        have hfa := all_false_of nearS l k hlt
        generalize l[k] = v at hs hfa y0 y1 y2 y3 y4 y5 y6 y7
        rw [hall, Bool.true_and] at hs
        obtain ⟨op, px, py, m, ⟨e, f, g', h⟩⟩ := v
        dsimp only at y0 y1 y2 y3 y4 y5 y6 y7
        obtain ⟨n1, hn1⟩ : ∃ n1, allB 1125899906842624 [px, py, m] = n1 := ⟨_, rfl⟩
        obtain ⟨n2, hn2⟩ : ∃ n1, allB 1125899906842624 [e, f, g', h] = n1 := ⟨_, rfl⟩
        have hnv : nearS ⟨op, px, py, m, ⟨e, f, g', h⟩⟩ = (n1 && n2) := by rw [← hn1, ← hn2]; rfl
        rw [hnv] at hs hfa
        have HB := Lib.hid hbel
        have HS := Lib.hid hs
        have HFA := Lib.hid hfa
        have HN1 := Lib.hid hn1
        have HN2 := Lib.hid hn2
        clear hbel hs hfa hall hn1 hn2 hnv
        go_wp2_with fail
        have hnew := At.new (wr.alloc (.cells #[.int .i64 op, .int .i64 px, .int .i64 py, .int .i64 m, .int .i64 e, .int .i64 f, .int .i64 g', .int .i64 h] 31)) 3 [.int .i64 px, .int .i64 py, .int .i64 m]
        have h6 := (At.new wr 31 [.int .i64 op, .int .i64 px, .int .i64 py, .int .i64 m, .int .i64 e, .int .i64 f, .int .i64 g', .int .i64 h]).alloc (.cells #[.int .i64 px, .int .i64 py, .int .i64 m] 3)
        rw [size_alloc] at hnew
        have hS1 := Small_any 1125899906842624 _ 3 3 _ _ (At.ints (zs := [px, py, m]) hnew) (by omega) (by omega) (by omega)
        rw [HN1.out] at hS1
        refine hS1.mono ?_
        rintro _ w3 ⟨rfl, hb3⟩
        have H6 := Lib.hid (h6.by hb3)
        have HB3 := Lib.hid (HB.out.trans (((two_new wr _ _).trans (hb3.mono (by simp only [size_alloc]; omega))).mono HB.out.size))
        clear hS1 hb3 h6 hnew y0 y1 y2 y3 y4 y5 y6 y7
        obtain ⟨y0, y1, y2, y3, y4, y5, y6, y7⟩ := H6.out.eight.1
        cases n1 with
        | false =>
          go_wp2
          go_ret
          exact ⟨by rw [HNA.out, HFA.out rfl]; rfl, HB3.out⟩
        | true =>
          rw [Bool.true_and] at HS HFA
          go_wp2_with fail
          refine (numbers_any _ _ _ _ _).mono ?_
          rintro _ w4 ⟨g4, rfl, hg4, hb4⟩
          have HS4 := Lib.hid (Small_any 1125899906842624 _ 4 4 _ w4 (At.ints (zs := [e, f, g', h]) hg4) (by omega) (by omega) (by omega))
          rw [HN2.out] at HS4
          have HB4 := Lib.hid (HB3.out.trans (hb4.mono HB3.out.size))
          clear hg4 hb4 y0 y1 y2 y3 y4 y5 y6 y7
          go_wp2_with fail
          refine HS4.out.mono ?_
          rintro _ w5 ⟨rfl, hb5⟩
          have HB5 := Lib.hid (HB4.out.trans (hb5.mono HB4.out.size))
          clear hb5 HS4
          cases n2 with
          | false =>
            go_wp2
            go_ret
            exact ⟨by rw [HNA.out, HFA.out trivial]; rfl, HB5.out⟩
          | true =>
            go_wp2
            go_roundw
            case rel => exact ⟨k + 1, by omega, by go_num, HS.out, HB5.out⟩
            case measure => simp [intOf]; omega
      · obtain rfl : k = l.length := by omega
        have HB := Lib.hid hbel
        have HAL := Lib.hid hall
        clear hbel hall
        go_wp2
        go_ret
        refine ⟨?_, HB.out⟩
        have h := HAL.out
        rw [List.take_length] at h
        rw [HNA.out, h]
        rfl
end Go.Proofs.Ytenhhkeajhkfoaa
