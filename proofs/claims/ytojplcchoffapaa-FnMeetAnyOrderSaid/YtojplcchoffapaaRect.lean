/- The contract of the laws' function rect: the first four numbers of a row, 0 where there are none. Conditions: none. -/
import Derived.Test.YtojplcchoffapaaLeaf3
import Derived.Test.YtojplcchoffapaaMem
namespace Go.Proofs.Ytojplcchoffapaa
open Go.RowKit

set_option maxHeartbeats 1000000 in
theorem lrect_any (A : Option Addr) (n c : Nat) (zs : List Int) (w : World) (hz : Ints w A n zs) :
    Calls Try.prog 15 #[.slice A n c] w (RetR (rectOf zs) w) := by
  obtain ⟨q, hq⟩ : ∃ q, q = rectOf zs := ⟨_, rfl⟩
  rw [← hq]
  have HQ := Lib.hid hq
  have HZ := Lib.hid hz
  clear hq hz
  go_enter Try.func15, Try.ntmps15
  go_wp2_with (with_reducible refine wpList_copy_splice rfl (.tmp 5) (.tmp 6) _ _ rfl 3 Try.underlying22 (by kernel_rfl) _ _ _ _ _ _ rfl rfl (w.heap.size + 1) 0 [.int .i64 0, .int .i64 0, .int .i64 0, .int .i64 0] 58 ?hg (four zs) ?hn ?hpos ?hfit (four_one zs) (w.heap.size + 1) _ (Below.refl _ _) (Nat.le_refl _) ?_)
  case hg => exact heap_alloc2_new _ _ _
  case hn => rw [four_length, HZ.out.1]
  case hpos =>
    intro h0
    rw [four_length, HZ.out.1] at h0
    have h0 : 0 < n := Nat.lt_of_lt_of_le h0 (Nat.min_le_left _ _)
    obtain ⟨b, o, rfl, hlt, hc⟩ := (HZ.out.alloc _).alloc _ |>.2 h0
    refine ⟨_, rfl, fun j v hj => ?_⟩
    obtain ⟨hj1, rfl⟩ := four_get zs j v hj
    have hl := HZ.out.1
    rw [add_off]
    exact hc j (by omega)
  case hfit => have := four_length zs; have h4 : Nat.min zs.length 4 ≤ 4 := Nat.min_le_right _ _; simp; omega
  intro w2 HG hB2
  have c0 : w2.cell? ⟨w.heap.size + 1, 0, none⟩ = some (.int .i64 (zs.getD 0 0)) := (cell_of_block HG.out 0).trans (splice_four zs 0 (by omega))
  have c1 : w2.cell? ⟨w.heap.size + 1, 1, none⟩ = some (.int .i64 (zs.getD 1 0)) := (cell_of_block HG.out 1).trans (splice_four zs 1 (by omega))
  have c2 : w2.cell? ⟨w.heap.size + 1, 2, none⟩ = some (.int .i64 (zs.getD 2 0)) := (cell_of_block HG.out 2).trans (splice_four zs 2 (by omega))
  have c3 : w2.cell? ⟨w.heap.size + 1, 3, none⟩ = some (.int .i64 (zs.getD 3 0)) := (cell_of_block HG.out 3).trans (splice_four zs 3 (by omega))
  have HK : Hid (w2.heap[w.heap.size]? = some (.cells #[.int .i64 0, .int .i64 0, .int .i64 0, .int .i64 0] 24 (0, 0))) :=
    (hB2.block w.heap.size (by omega)).trans ((Below.heap_alloc _ _ _ (by simp)).trans (heap_alloc_new _ _))
  obtain ⟨⟨q0, q1, q2, q3⟩, ⟨z0, z1, z2, z3⟩⟩ := blk4 HK.out
  have HB : Hid (Below w.heap.size w w2) := (two_new w _ _).trans (hB2.mono (by omega))
  clear hB2
  go_wp2
  refine bodyPost_ret (results_cell_row rfl _ _ w.heap.size _ _ _ _ rfl (blk4_set HK.out _ _ _ _) Try.underlying24 rfl (by kernel_rfl)) rfl (RetR.mk HQ.out (below_set4 HB.out (Nat.le_refl _) _ _ _ _))
end Go.Proofs.Ytojplcchoffapaa
