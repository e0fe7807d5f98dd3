/-
  No cell of these rows narrows 'for every input' (looked for: loops, veiled, ifaces, maps, wideKeys, modest, calm, conditions, laid).
  DERIVED. THE GIVEN ROWS OF THIS SEAT. 11 by the template 'for every input the law returns true; each argument reads behind the call as it read before'; 0 by the template 'total and deterministic' (their statements: YtenhhkeajhkfoaaTotals.lean).
  GIVEN WITH THE SEED: the statements are not yours to turn. If you find one false, say at which input.
  Laid BY PROGRAM, IN A SANDBOX (cutbox-rows.mjs): the forced cells as the released guide's own fill.sh prints them over the translation 4169e59a46c4bf71… (all of the seat's roots in one cut). By AI agents, Wed Nov 11 2026. No macro, syntax, notation, axiom, sorry.
-/
import Derived.Test.YtenhhkeajhkfoaaChecked
import GoSem.Claim
import GoSem.ClaimJoined
import GoSem.ClaimMapViews
import Derived.JoinedTies
import Derived.KernelRfl
namespace Go.Proofs.Ytenhhkeajhkfoaa
/- THE CELL 'sum', in the pinned program and in every row, IS THE sha256 OF THE DUMP (.gsa) THAT YtenhhkeajhkfoaaProg.lean LOADS. Nothing in Lean hashes anything: it is a label: what it is worth is what the hold of that sum in a sandbox is worth. -/
noncomputable def Try.pinned : Pinned := { name := "ytenhhkeajhkfoaa", sum := "4169e59a46c4bf71b84b64102ff26ebb87b8f1ceb15c93078faeef6ee9f7247f", checked := Try.checked }
namespace Rows
def none {H : Type} : Left H := { results := [], args := [] }

/-- 'laws.FnWalkAdds': WHATEVER THE INPUT: true; the input reads as it did. -/
def fnWalkAddsSpec : ChangeSpec := { name := "fnWalkAdds", fn := fun _ => fun
  | [d1, d2, d3, d4] => { results := [.lit (.bool true)], args := [d1, d2, d3, d4] }
  | _ => none }
def fnWalkAddsRow : OpenClaim := { program := "ytenhhkeajhkfoaa", sum := "4169e59a46c4bf71b84b64102ff26ebb87b8f1ceb15c93078faeef6ee9f7247f", func := "loop.example/lib-g01428/laws.FnWalkAdds", spec := "fnWalkAdds", apart := false }
def FnWalkAddsSaid : Prop := fnWalkAddsRow.holds Try.pinned (OpenSpec.ofChange fnWalkAddsSpec)

/-- ITS FALSE NEIGHBOUR: 'it returns false'. Refute it at one input. -/
def fnWalkAddsWrong : ChangeSpec := { name := "fnWalkAdds", fn := fun _ => fun
  | [d1, d2, d3, d4] => { results := [.lit (.bool false)], args := [d1, d2, d3, d4] }
  | _ => none }
def FnWalkAddsWrongFalsely : Prop := fnWalkAddsRow.holds Try.pinned (OpenSpec.ofChange fnWalkAddsWrong)

/-- 'laws.FnWalkCanon': WHATEVER THE INPUT: true; the input reads as it did. -/
def fnWalkCanonSpec : ChangeSpec := { name := "fnWalkCanon", fn := fun _ => fun
  | [d1, d2, d3, d4, d5, d6] => { results := [.lit (.bool true)], args := [d1, d2, d3, d4, d5, d6] }
  | _ => none }
def fnWalkCanonRow : OpenClaim := { program := "ytenhhkeajhkfoaa", sum := "4169e59a46c4bf71b84b64102ff26ebb87b8f1ceb15c93078faeef6ee9f7247f", func := "loop.example/lib-g01428/laws.FnWalkCanon", spec := "fnWalkCanon", apart := false }
def FnWalkCanonSaid : Prop := fnWalkCanonRow.holds Try.pinned (OpenSpec.ofChange fnWalkCanonSpec)

/-- ITS FALSE NEIGHBOUR: 'it returns false'. Refute it at one input. -/
def fnWalkCanonWrong : ChangeSpec := { name := "fnWalkCanon", fn := fun _ => fun
  | [d1, d2, d3, d4, d5, d6] => { results := [.lit (.bool false)], args := [d1, d2, d3, d4, d5, d6] }
  | _ => none }
def FnWalkCanonWrongFalsely : Prop := fnWalkCanonRow.holds Try.pinned (OpenSpec.ofChange fnWalkCanonWrong)

/-- 'laws.FnWalkMirrored': WHATEVER THE INPUT: true; the input reads as it did. -/
def fnWalkMirroredSpec : ChangeSpec := { name := "fnWalkMirrored", fn := fun _ => fun
  | [d1, d2, d3, d4, d5, d6] => { results := [.lit (.bool true)], args := [d1, d2, d3, d4, d5, d6] }
  | _ => none }
def fnWalkMirroredRow : OpenClaim := { program := "ytenhhkeajhkfoaa", sum := "4169e59a46c4bf71b84b64102ff26ebb87b8f1ceb15c93078faeef6ee9f7247f", func := "loop.example/lib-g01428/laws.FnWalkMirrored", spec := "fnWalkMirrored", unfollowed := true, recurses := true, apart := false }
def FnWalkMirroredSaid : Prop := fnWalkMirroredRow.holds Try.pinned (OpenSpec.ofChange fnWalkMirroredSpec)

/-- ITS FALSE NEIGHBOUR: 'it returns false'. Refute it at one input. -/
def fnWalkMirroredWrong : ChangeSpec := { name := "fnWalkMirrored", fn := fun _ => fun
  | [d1, d2, d3, d4, d5, d6] => { results := [.lit (.bool false)], args := [d1, d2, d3, d4, d5, d6] }
  | _ => none }
def FnWalkMirroredWrongFalsely : Prop := fnWalkMirroredRow.holds Try.pinned (OpenSpec.ofChange fnWalkMirroredWrong)

/-- 'laws.FnWalkMoved': WHATEVER THE INPUT: true; the input reads as it did. -/
def fnWalkMovedSpec : ChangeSpec := { name := "fnWalkMoved", fn := fun _ => fun
  | [d1, d2, d3, d4, d5, d6, d7] => { results := [.lit (.bool true)], args := [d1, d2, d3, d4, d5, d6, d7] }
  | _ => none }
def fnWalkMovedRow : OpenClaim := { program := "ytenhhkeajhkfoaa", sum := "4169e59a46c4bf71b84b64102ff26ebb87b8f1ceb15c93078faeef6ee9f7247f", func := "loop.example/lib-g01428/laws.FnWalkMoved", spec := "fnWalkMoved", unfollowed := true, recurses := true, apart := false }
def FnWalkMovedSaid : Prop := fnWalkMovedRow.holds Try.pinned (OpenSpec.ofChange fnWalkMovedSpec)

/-- ITS FALSE NEIGHBOUR: 'it returns false'. Refute it at one input. -/
def fnWalkMovedWrong : ChangeSpec := { name := "fnWalkMoved", fn := fun _ => fun
  | [d1, d2, d3, d4, d5, d6, d7] => { results := [.lit (.bool false)], args := [d1, d2, d3, d4, d5, d6, d7] }
  | _ => none }
def FnWalkMovedWrongFalsely : Prop := fnWalkMovedRow.holds Try.pinned (OpenSpec.ofChange fnWalkMovedWrong)

/-- 'laws.FnWalkSplit': WHATEVER THE INPUT: true; the input reads as it did. -/
def fnWalkSplitSpec : ChangeSpec := { name := "fnWalkSplit", fn := fun _ => fun
  | [d1, d2, d3, d4, d5, d6, d7] => { results := [.lit (.bool true)], args := [d1, d2, d3, d4, d5, d6, d7] }
  | _ => none }
def fnWalkSplitRow : OpenClaim := { program := "ytenhhkeajhkfoaa", sum := "4169e59a46c4bf71b84b64102ff26ebb87b8f1ceb15c93078faeef6ee9f7247f", func := "loop.example/lib-g01428/laws.FnWalkSplit", spec := "fnWalkSplit", apart := false }
def FnWalkSplitSaid : Prop := fnWalkSplitRow.holds Try.pinned (OpenSpec.ofChange fnWalkSplitSpec)

/-- ITS FALSE NEIGHBOUR: 'it returns false'. Refute it at one input. -/
def fnWalkSplitWrong : ChangeSpec := { name := "fnWalkSplit", fn := fun _ => fun
  | [d1, d2, d3, d4, d5, d6, d7] => { results := [.lit (.bool false)], args := [d1, d2, d3, d4, d5, d6, d7] }
  | _ => none }
def FnWalkSplitWrongFalsely : Prop := fnWalkSplitRow.holds Try.pinned (OpenSpec.ofChange fnWalkSplitWrong)

/-- 'laws.FnWalkTurned': WHATEVER THE INPUT: true; the input reads as it did. -/
def fnWalkTurnedSpec : ChangeSpec := { name := "fnWalkTurned", fn := fun _ => fun
  | [d1, d2, d3, d4, d5, d6] => { results := [.lit (.bool true)], args := [d1, d2, d3, d4, d5, d6] }
  | _ => none }
def fnWalkTurnedRow : OpenClaim := { program := "ytenhhkeajhkfoaa", sum := "4169e59a46c4bf71b84b64102ff26ebb87b8f1ceb15c93078faeef6ee9f7247f", func := "loop.example/lib-g01428/laws.FnWalkTurned", spec := "fnWalkTurned", unfollowed := true, recurses := true, apart := false }
def FnWalkTurnedSaid : Prop := fnWalkTurnedRow.holds Try.pinned (OpenSpec.ofChange fnWalkTurnedSpec)

/-- ITS FALSE NEIGHBOUR: 'it returns false'. Refute it at one input. -/
def fnWalkTurnedWrong : ChangeSpec := { name := "fnWalkTurned", fn := fun _ => fun
  | [d1, d2, d3, d4, d5, d6] => { results := [.lit (.bool false)], args := [d1, d2, d3, d4, d5, d6] }
  | _ => none }
def FnWalkTurnedWrongFalsely : Prop := fnWalkTurnedRow.holds Try.pinned (OpenSpec.ofChange fnWalkTurnedWrong)

/-- 'laws.FnWalkMeets': WHATEVER THE INPUT: true; the input reads as it did. -/
def fnWalkMeetsSpec : ChangeSpec := { name := "fnWalkMeets", fn := fun _ => fun
  | [d1, d2] => { results := [.lit (.bool true)], args := [d1, d2] }
  | _ => none }
def fnWalkMeetsRow : OpenClaim := { program := "ytenhhkeajhkfoaa", sum := "4169e59a46c4bf71b84b64102ff26ebb87b8f1ceb15c93078faeef6ee9f7247f", func := "loop.example/lib-g01428/laws.FnWalkMeets", spec := "fnWalkMeets", apart := false }
def FnWalkMeetsSaid : Prop := fnWalkMeetsRow.holds Try.pinned (OpenSpec.ofChange fnWalkMeetsSpec)

/-- ITS FALSE NEIGHBOUR: 'it returns false'. Refute it at one input. -/
def fnWalkMeetsWrong : ChangeSpec := { name := "fnWalkMeets", fn := fun _ => fun
  | [d1, d2] => { results := [.lit (.bool false)], args := [d1, d2] }
  | _ => none }
def FnWalkMeetsWrongFalsely : Prop := fnWalkMeetsRow.holds Try.pinned (OpenSpec.ofChange fnWalkMeetsWrong)

/-- 'laws.FnGridOnce': WHATEVER THE INPUT: true; the input reads as it did. -/
def fnGridOnceSpec : ChangeSpec := { name := "fnGridOnce", fn := fun _ => fun
  | [d1, d2, d3, d4, d5] => { results := [.lit (.bool true)], args := [d1, d2, d3, d4, d5] }
  | _ => none }
def fnGridOnceRow : OpenClaim := { program := "ytenhhkeajhkfoaa", sum := "4169e59a46c4bf71b84b64102ff26ebb87b8f1ceb15c93078faeef6ee9f7247f", func := "loop.example/lib-g01428/laws.FnGridOnce", spec := "fnGridOnce", unfollowed := true, recurses := true, apart := false }
def FnGridOnceSaid : Prop := fnGridOnceRow.holds Try.pinned (OpenSpec.ofChange fnGridOnceSpec)

/-- ITS FALSE NEIGHBOUR: 'it returns false'. Refute it at one input. -/
def fnGridOnceWrong : ChangeSpec := { name := "fnGridOnce", fn := fun _ => fun
  | [d1, d2, d3, d4, d5] => { results := [.lit (.bool false)], args := [d1, d2, d3, d4, d5] }
  | _ => none }
def FnGridOnceWrongFalsely : Prop := fnGridOnceRow.holds Try.pinned (OpenSpec.ofChange fnGridOnceWrong)

/-- 'laws.FnModularMeet': WHATEVER THE INPUT: true; the input reads as it did. -/
def fnModularMeetSpec : ChangeSpec := { name := "fnModularMeet", fn := fun _ => fun
  | [d1, d2, d3] => { results := [.lit (.bool true)], args := [d1, d2, d3] }
  | _ => none }
def fnModularMeetRow : OpenClaim := { program := "ytenhhkeajhkfoaa", sum := "4169e59a46c4bf71b84b64102ff26ebb87b8f1ceb15c93078faeef6ee9f7247f", func := "loop.example/lib-g01428/laws.FnModularMeet", spec := "fnModularMeet", apart := false }
def FnModularMeetSaid : Prop := fnModularMeetRow.holds Try.pinned (OpenSpec.ofChange fnModularMeetSpec)

/-- ITS FALSE NEIGHBOUR: 'it returns false'. Refute it at one input. -/
def fnModularMeetWrong : ChangeSpec := { name := "fnModularMeet", fn := fun _ => fun
  | [d1, d2, d3] => { results := [.lit (.bool false)], args := [d1, d2, d3] }
  | _ => none }
def FnModularMeetWrongFalsely : Prop := fnModularMeetRow.holds Try.pinned (OpenSpec.ofChange fnModularMeetWrong)

/-- 'laws.FnSameSize': WHATEVER THE INPUT: true; the input reads as it did. -/
def fnSameSizeSpec : ChangeSpec := { name := "fnSameSize", fn := fun _ => fun
  | [d1, d2, d3, d4] => { results := [.lit (.bool true)], args := [d1, d2, d3, d4] }
  | _ => none }
def fnSameSizeRow : OpenClaim := { program := "ytenhhkeajhkfoaa", sum := "4169e59a46c4bf71b84b64102ff26ebb87b8f1ceb15c93078faeef6ee9f7247f", func := "loop.example/lib-g01428/laws.FnSameSize", spec := "fnSameSize", apart := false }
def FnSameSizeSaid : Prop := fnSameSizeRow.holds Try.pinned (OpenSpec.ofChange fnSameSizeSpec)

/-- ITS FALSE NEIGHBOUR: 'it returns false'. Refute it at one input. -/
def fnSameSizeWrong : ChangeSpec := { name := "fnSameSize", fn := fun _ => fun
  | [d1, d2, d3, d4] => { results := [.lit (.bool false)], args := [d1, d2, d3, d4] }
  | _ => none }
def FnSameSizeWrongFalsely : Prop := fnSameSizeRow.holds Try.pinned (OpenSpec.ofChange fnSameSizeWrong)

/-- 'laws.FnWalkMonotone': WHATEVER THE INPUT: true; the input reads as it did. -/
def fnWalkMonotoneSpec : ChangeSpec := { name := "fnWalkMonotone", fn := fun _ => fun
  | [d1, d2, d3, d4, d5, d6, d7] => { results := [.lit (.bool true)], args := [d1, d2, d3, d4, d5, d6, d7] }
  | _ => none }
def fnWalkMonotoneRow : OpenClaim := { program := "ytenhhkeajhkfoaa", sum := "4169e59a46c4bf71b84b64102ff26ebb87b8f1ceb15c93078faeef6ee9f7247f", func := "loop.example/lib-g01428/laws.FnWalkMonotone", spec := "fnWalkMonotone", unfollowed := true, recurses := true, apart := false }
def FnWalkMonotoneSaid : Prop := fnWalkMonotoneRow.holds Try.pinned (OpenSpec.ofChange fnWalkMonotoneSpec)

/-- ITS FALSE NEIGHBOUR: 'it returns false'. Refute it at one input. -/
def fnWalkMonotoneWrong : ChangeSpec := { name := "fnWalkMonotone", fn := fun _ => fun
  | [d1, d2, d3, d4, d5, d6, d7] => { results := [.lit (.bool false)], args := [d1, d2, d3, d4, d5, d6, d7] }
  | _ => none }
def FnWalkMonotoneWrongFalsely : Prop := fnWalkMonotoneRow.holds Try.pinned (OpenSpec.ofChange fnWalkMonotoneWrong)

/- THE SECOND FORM. 'bulk': how many values and letters a reading holds, each counted each time it is reached (what is shared counts as often as it is met; a slice's spare places count too). A statement '..UptoSaid' is the law's where the arguments, and the package variables that the reading takes, are together of bulk at most 1048576: NARROWER than '..Said'. Prove '..Said' where nothing that the law and all that it calls make is longer than what came in: it says more and counts as full. Else prove '..UptoSaid'. A law counts once. -/
mutual
def uptoBulk {H : Type} : DataW H → Nat
  | .lit (.string bytes) => bytes.length + 1
  | .lit _ => 1
  | .nil => 1
  | .ptr d => uptoBulk d + 1
  | .slice elems spare => uptoBulkAll elems + uptoBulkAll spare + 1
  | .agg parts => uptoBulkAll parts + 1
  | .iface _ d => uptoBulk d + 1
  | .map entries => uptoBulkEntries entries + 1
  | .held _ => 1
def uptoBulkAll {H : Type} : List (DataW H) → Nat
  | [] => 0
  | d :: r => uptoBulk d + uptoBulkAll r
def uptoBulkEntries {H : Type} : List (Lit × DataW H) → Nat
  | [] => 0
  | x :: r => uptoBulkEntry x + uptoBulkEntries r
def uptoBulkEntry {H : Type} : Lit × DataW H → Nat
  | (.string bytes, d) => bytes.length + uptoBulk d + 1
  | (_, d) => uptoBulk d + 1
 end
def uptoSmall : (H : Type) → List (DataW H) → Bool := fun _ ds => decide (uptoBulkAll ds ≤ 1048576)
def OpenSpec.upto (s : _root_.Go.ChangeSpec) : _root_.Go.OpenSpec := { _root_.Go.OpenSpec.ofChange s with cond := some uptoSmall }

/-- 'laws.FnWalkAdds', WHERE WHAT IT READS IS OF BULK AT MOST 1048576: true; the input reads as it did. -/
def fnWalkAddsUptoRow : OpenClaim := { program := "ytenhhkeajhkfoaa", sum := "4169e59a46c4bf71b84b64102ff26ebb87b8f1ceb15c93078faeef6ee9f7247f", func := "loop.example/lib-g01428/laws.FnWalkAdds", spec := "fnWalkAdds", apart := false, narrowed := true }
def FnWalkAddsUptoSaid : Prop := fnWalkAddsUptoRow.holds Try.pinned (OpenSpec.upto fnWalkAddsSpec)

/-- 'laws.FnWalkCanon', WHERE WHAT IT READS IS OF BULK AT MOST 1048576: true; the input reads as it did. -/
def fnWalkCanonUptoRow : OpenClaim := { program := "ytenhhkeajhkfoaa", sum := "4169e59a46c4bf71b84b64102ff26ebb87b8f1ceb15c93078faeef6ee9f7247f", func := "loop.example/lib-g01428/laws.FnWalkCanon", spec := "fnWalkCanon", apart := false, narrowed := true }
def FnWalkCanonUptoSaid : Prop := fnWalkCanonUptoRow.holds Try.pinned (OpenSpec.upto fnWalkCanonSpec)

/-- 'laws.FnWalkMirrored', WHERE WHAT IT READS IS OF BULK AT MOST 1048576: true; the input reads as it did. -/
def fnWalkMirroredUptoRow : OpenClaim := { program := "ytenhhkeajhkfoaa", sum := "4169e59a46c4bf71b84b64102ff26ebb87b8f1ceb15c93078faeef6ee9f7247f", func := "loop.example/lib-g01428/laws.FnWalkMirrored", spec := "fnWalkMirrored", unfollowed := true, recurses := true, apart := false, narrowed := true }
def FnWalkMirroredUptoSaid : Prop := fnWalkMirroredUptoRow.holds Try.pinned (OpenSpec.upto fnWalkMirroredSpec)

/-- 'laws.FnWalkMoved', WHERE WHAT IT READS IS OF BULK AT MOST 1048576: true; the input reads as it did. -/
def fnWalkMovedUptoRow : OpenClaim := { program := "ytenhhkeajhkfoaa", sum := "4169e59a46c4bf71b84b64102ff26ebb87b8f1ceb15c93078faeef6ee9f7247f", func := "loop.example/lib-g01428/laws.FnWalkMoved", spec := "fnWalkMoved", unfollowed := true, recurses := true, apart := false, narrowed := true }
def FnWalkMovedUptoSaid : Prop := fnWalkMovedUptoRow.holds Try.pinned (OpenSpec.upto fnWalkMovedSpec)

/-- 'laws.FnWalkSplit', WHERE WHAT IT READS IS OF BULK AT MOST 1048576: true; the input reads as it did. -/
def fnWalkSplitUptoRow : OpenClaim := { program := "ytenhhkeajhkfoaa", sum := "4169e59a46c4bf71b84b64102ff26ebb87b8f1ceb15c93078faeef6ee9f7247f", func := "loop.example/lib-g01428/laws.FnWalkSplit", spec := "fnWalkSplit", apart := false, narrowed := true }
def FnWalkSplitUptoSaid : Prop := fnWalkSplitUptoRow.holds Try.pinned (OpenSpec.upto fnWalkSplitSpec)

/-- 'laws.FnWalkTurned', WHERE WHAT IT READS IS OF BULK AT MOST 1048576: true; the input reads as it did. -/
def fnWalkTurnedUptoRow : OpenClaim := { program := "ytenhhkeajhkfoaa", sum := "4169e59a46c4bf71b84b64102ff26ebb87b8f1ceb15c93078faeef6ee9f7247f", func := "loop.example/lib-g01428/laws.FnWalkTurned", spec := "fnWalkTurned", unfollowed := true, recurses := true, apart := false, narrowed := true }
def FnWalkTurnedUptoSaid : Prop := fnWalkTurnedUptoRow.holds Try.pinned (OpenSpec.upto fnWalkTurnedSpec)

/-- 'laws.FnWalkMeets', WHERE WHAT IT READS IS OF BULK AT MOST 1048576: true; the input reads as it did. -/
def fnWalkMeetsUptoRow : OpenClaim := { program := "ytenhhkeajhkfoaa", sum := "4169e59a46c4bf71b84b64102ff26ebb87b8f1ceb15c93078faeef6ee9f7247f", func := "loop.example/lib-g01428/laws.FnWalkMeets", spec := "fnWalkMeets", apart := false, narrowed := true }
def FnWalkMeetsUptoSaid : Prop := fnWalkMeetsUptoRow.holds Try.pinned (OpenSpec.upto fnWalkMeetsSpec)

/-- 'laws.FnGridOnce', WHERE WHAT IT READS IS OF BULK AT MOST 1048576: true; the input reads as it did. -/
def fnGridOnceUptoRow : OpenClaim := { program := "ytenhhkeajhkfoaa", sum := "4169e59a46c4bf71b84b64102ff26ebb87b8f1ceb15c93078faeef6ee9f7247f", func := "loop.example/lib-g01428/laws.FnGridOnce", spec := "fnGridOnce", unfollowed := true, recurses := true, apart := false, narrowed := true }
def FnGridOnceUptoSaid : Prop := fnGridOnceUptoRow.holds Try.pinned (OpenSpec.upto fnGridOnceSpec)

/-- 'laws.FnModularMeet', WHERE WHAT IT READS IS OF BULK AT MOST 1048576: true; the input reads as it did. -/
def fnModularMeetUptoRow : OpenClaim := { program := "ytenhhkeajhkfoaa", sum := "4169e59a46c4bf71b84b64102ff26ebb87b8f1ceb15c93078faeef6ee9f7247f", func := "loop.example/lib-g01428/laws.FnModularMeet", spec := "fnModularMeet", apart := false, narrowed := true }
def FnModularMeetUptoSaid : Prop := fnModularMeetUptoRow.holds Try.pinned (OpenSpec.upto fnModularMeetSpec)

/-- 'laws.FnSameSize', WHERE WHAT IT READS IS OF BULK AT MOST 1048576: true; the input reads as it did. -/
def fnSameSizeUptoRow : OpenClaim := { program := "ytenhhkeajhkfoaa", sum := "4169e59a46c4bf71b84b64102ff26ebb87b8f1ceb15c93078faeef6ee9f7247f", func := "loop.example/lib-g01428/laws.FnSameSize", spec := "fnSameSize", apart := false, narrowed := true }
def FnSameSizeUptoSaid : Prop := fnSameSizeUptoRow.holds Try.pinned (OpenSpec.upto fnSameSizeSpec)

/-- 'laws.FnWalkMonotone', WHERE WHAT IT READS IS OF BULK AT MOST 1048576: true; the input reads as it did. -/
def fnWalkMonotoneUptoRow : OpenClaim := { program := "ytenhhkeajhkfoaa", sum := "4169e59a46c4bf71b84b64102ff26ebb87b8f1ceb15c93078faeef6ee9f7247f", func := "loop.example/lib-g01428/laws.FnWalkMonotone", spec := "fnWalkMonotone", unfollowed := true, recurses := true, apart := false, narrowed := true }
def FnWalkMonotoneUptoSaid : Prop := fnWalkMonotoneUptoRow.holds Try.pinned (OpenSpec.upto fnWalkMonotoneSpec)

end Rows
end Go.Proofs.Ytenhhkeajhkfoaa
