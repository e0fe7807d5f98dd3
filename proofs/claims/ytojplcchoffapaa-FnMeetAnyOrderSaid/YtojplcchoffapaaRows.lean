/-
  No cell of these rows narrows 'for every input' (looked for: loops, veiled, ifaces, maps, wideKeys, modest, calm, conditions, laid).
  DERIVED. THE GIVEN ROWS OF THIS SEAT. 12 by the template 'for every input the law returns true; each argument reads behind the call as it read before'; 0 by the template 'total and deterministic' (their statements: YtojplcchoffapaaTotals.lean).
  GIVEN WITH THE SEED: the statements are not yours to turn. If you find one false, say at which input.
  Laid BY PROGRAM, IN A SANDBOX (cutbox-rows.mjs): the forced cells as the released guide's own fill.sh prints them over the translation 4dd7334af94e868d… (all of the seat's roots in one cut). By AI agents, Wed Nov 11 2026. No macro, syntax, notation, axiom, sorry.
-/
import Derived.Test.YtojplcchoffapaaChecked
import GoSem.Claim
import GoSem.ClaimJoined
import GoSem.ClaimMapViews
import Derived.JoinedTies
import Derived.KernelRfl
namespace Go.Proofs.Ytojplcchoffapaa
/- THE CELL 'sum', in the pinned program and in every row, IS THE sha256 OF THE DUMP (.gsa) THAT YtojplcchoffapaaProg.lean LOADS. Nothing in Lean hashes anything: it is a label: what it is worth is what the hold of that sum in a sandbox is worth. -/
noncomputable def Try.pinned : Pinned := { name := "ytojplcchoffapaa", sum := "4dd7334af94e868df4741e390b4c76aacb1bca9328b03ba55e409c0d10a82179", checked := Try.checked }
namespace Rows
def none {H : Type} : Left H := { results := [], args := [] }

/-- 'laws.FnCorners': WHATEVER THE INPUT: true; the input reads as it did. -/
def fnCornersSpec : ChangeSpec := { name := "fnCorners", fn := fun _ => fun
  | [d1, d2] => { results := [.lit (.bool true)], args := [d1, d2] }
  | _ => none }
def fnCornersRow : OpenClaim := { program := "ytojplcchoffapaa", sum := "4dd7334af94e868df4741e390b4c76aacb1bca9328b03ba55e409c0d10a82179", func := "loop.example/lib-g01428/laws.FnCorners", spec := "fnCorners", apart := false }
def FnCornersSaid : Prop := fnCornersRow.holds Try.pinned (OpenSpec.ofChange fnCornersSpec)

/-- ITS FALSE NEIGHBOUR: 'it returns false'. Refute it at one input. -/
def fnCornersWrong : ChangeSpec := { name := "fnCorners", fn := fun _ => fun
  | [d1, d2] => { results := [.lit (.bool false)], args := [d1, d2] }
  | _ => none }
def FnCornersWrongFalsely : Prop := fnCornersRow.holds Try.pinned (OpenSpec.ofChange fnCornersWrong)

/-- 'laws.FnModSums': WHATEVER THE INPUT: true; the input reads as it did. -/
def fnModSumsSpec : ChangeSpec := { name := "fnModSums", fn := fun _ => fun
  | [d1, d2, d3, d4, d5] => { results := [.lit (.bool true)], args := [d1, d2, d3, d4, d5] }
  | _ => none }
def fnModSumsRow : OpenClaim := { program := "ytojplcchoffapaa", sum := "4dd7334af94e868df4741e390b4c76aacb1bca9328b03ba55e409c0d10a82179", func := "loop.example/lib-g01428/laws.FnModSums", spec := "fnModSums", unfollowed := true, recurses := true, apart := false }
def FnModSumsSaid : Prop := fnModSumsRow.holds Try.pinned (OpenSpec.ofChange fnModSumsSpec)

/-- ITS FALSE NEIGHBOUR: 'it returns false'. Refute it at one input. -/
def fnModSumsWrong : ChangeSpec := { name := "fnModSums", fn := fun _ => fun
  | [d1, d2, d3, d4, d5] => { results := [.lit (.bool false)], args := [d1, d2, d3, d4, d5] }
  | _ => none }
def FnModSumsWrongFalsely : Prop := fnModSumsRow.holds Try.pinned (OpenSpec.ofChange fnModSumsWrong)

/-- 'laws.FnJoinCut': WHATEVER THE INPUT: true; the input reads as it did. -/
def fnJoinCutSpec : ChangeSpec := { name := "fnJoinCut", fn := fun _ => fun
  | [d1, d2] => { results := [.lit (.bool true)], args := [d1, d2] }
  | _ => none }
def fnJoinCutRow : OpenClaim := { program := "ytojplcchoffapaa", sum := "4dd7334af94e868df4741e390b4c76aacb1bca9328b03ba55e409c0d10a82179", func := "loop.example/lib-g01428/laws.FnJoinCut", spec := "fnJoinCut", apart := false }
def FnJoinCutSaid : Prop := fnJoinCutRow.holds Try.pinned (OpenSpec.ofChange fnJoinCutSpec)

/-- ITS FALSE NEIGHBOUR: 'it returns false'. Refute it at one input. -/
def fnJoinCutWrong : ChangeSpec := { name := "fnJoinCut", fn := fun _ => fun
  | [d1, d2] => { results := [.lit (.bool false)], args := [d1, d2] }
  | _ => none }
def FnJoinCutWrongFalsely : Prop := fnJoinCutRow.holds Try.pinned (OpenSpec.ofChange fnJoinCutWrong)

/-- 'laws.FnModWindow': WHATEVER THE INPUT: true; the input reads as it did. -/
def fnModWindowSpec : ChangeSpec := { name := "fnModWindow", fn := fun _ => fun
  | [d1, d2, d3, d4, d5] => { results := [.lit (.bool true)], args := [d1, d2, d3, d4, d5] }
  | _ => none }
def fnModWindowRow : OpenClaim := { program := "ytojplcchoffapaa", sum := "4dd7334af94e868df4741e390b4c76aacb1bca9328b03ba55e409c0d10a82179", func := "loop.example/lib-g01428/laws.FnModWindow", spec := "fnModWindow", unfollowed := true, recurses := true, apart := false }
def FnModWindowSaid : Prop := fnModWindowRow.holds Try.pinned (OpenSpec.ofChange fnModWindowSpec)

/-- ITS FALSE NEIGHBOUR: 'it returns false'. Refute it at one input. -/
def fnModWindowWrong : ChangeSpec := { name := "fnModWindow", fn := fun _ => fun
  | [d1, d2, d3, d4, d5] => { results := [.lit (.bool false)], args := [d1, d2, d3, d4, d5] }
  | _ => none }
def FnModWindowWrongFalsely : Prop := fnModWindowRow.holds Try.pinned (OpenSpec.ofChange fnModWindowWrong)

/-- 'laws.FnJoinAnyOrder': WHATEVER THE INPUT: true; the input reads as it did. -/
def fnJoinAnyOrderSpec : ChangeSpec := { name := "fnJoinAnyOrder", fn := fun _ => fun
  | [d1, d2] => { results := [.lit (.bool true)], args := [d1, d2] }
  | _ => none }
def fnJoinAnyOrderRow : OpenClaim := { program := "ytojplcchoffapaa", sum := "4dd7334af94e868df4741e390b4c76aacb1bca9328b03ba55e409c0d10a82179", func := "loop.example/lib-g01428/laws.FnJoinAnyOrder", spec := "fnJoinAnyOrder", apart := false }
def FnJoinAnyOrderSaid : Prop := fnJoinAnyOrderRow.holds Try.pinned (OpenSpec.ofChange fnJoinAnyOrderSpec)

/-- ITS FALSE NEIGHBOUR: 'it returns false'. Refute it at one input. -/
def fnJoinAnyOrderWrong : ChangeSpec := { name := "fnJoinAnyOrder", fn := fun _ => fun
  | [d1, d2] => { results := [.lit (.bool false)], args := [d1, d2] }
  | _ => none }
def FnJoinAnyOrderWrongFalsely : Prop := fnJoinAnyOrderRow.holds Try.pinned (OpenSpec.ofChange fnJoinAnyOrderWrong)

/-- 'laws.FnMeetCut': WHATEVER THE INPUT: true; the input reads as it did. -/
def fnMeetCutSpec : ChangeSpec := { name := "fnMeetCut", fn := fun _ => fun
  | [d1, d2] => { results := [.lit (.bool true)], args := [d1, d2] }
  | _ => none }
def fnMeetCutRow : OpenClaim := { program := "ytojplcchoffapaa", sum := "4dd7334af94e868df4741e390b4c76aacb1bca9328b03ba55e409c0d10a82179", func := "loop.example/lib-g01428/laws.FnMeetCut", spec := "fnMeetCut", apart := false }
def FnMeetCutSaid : Prop := fnMeetCutRow.holds Try.pinned (OpenSpec.ofChange fnMeetCutSpec)

/-- ITS FALSE NEIGHBOUR: 'it returns false'. Refute it at one input. -/
def fnMeetCutWrong : ChangeSpec := { name := "fnMeetCut", fn := fun _ => fun
  | [d1, d2] => { results := [.lit (.bool false)], args := [d1, d2] }
  | _ => none }
def FnMeetCutWrongFalsely : Prop := fnMeetCutRow.holds Try.pinned (OpenSpec.ofChange fnMeetCutWrong)

/-- 'laws.FnJoinLeast': WHATEVER THE INPUT: true; the input reads as it did. -/
def fnJoinLeastSpec : ChangeSpec := { name := "fnJoinLeast", fn := fun _ => fun
  | [d1, d2, d3, d4] => { results := [.lit (.bool true)], args := [d1, d2, d3, d4] }
  | _ => none }
def fnJoinLeastRow : OpenClaim := { program := "ytojplcchoffapaa", sum := "4dd7334af94e868df4741e390b4c76aacb1bca9328b03ba55e409c0d10a82179", func := "loop.example/lib-g01428/laws.FnJoinLeast", spec := "fnJoinLeast", apart := false }
def FnJoinLeastSaid : Prop := fnJoinLeastRow.holds Try.pinned (OpenSpec.ofChange fnJoinLeastSpec)

/-- ITS FALSE NEIGHBOUR: 'it returns false'. Refute it at one input. -/
def fnJoinLeastWrong : ChangeSpec := { name := "fnJoinLeast", fn := fun _ => fun
  | [d1, d2, d3, d4] => { results := [.lit (.bool false)], args := [d1, d2, d3, d4] }
  | _ => none }
def FnJoinLeastWrongFalsely : Prop := fnJoinLeastRow.holds Try.pinned (OpenSpec.ofChange fnJoinLeastWrong)

/-- 'laws.FnMeetAnyOrder': WHATEVER THE INPUT: true; the input reads as it did. -/
def fnMeetAnyOrderSpec : ChangeSpec := { name := "fnMeetAnyOrder", fn := fun _ => fun
  | [d1, d2] => { results := [.lit (.bool true)], args := [d1, d2] }
  | _ => none }
def fnMeetAnyOrderRow : OpenClaim := { program := "ytojplcchoffapaa", sum := "4dd7334af94e868df4741e390b4c76aacb1bca9328b03ba55e409c0d10a82179", func := "loop.example/lib-g01428/laws.FnMeetAnyOrder", spec := "fnMeetAnyOrder", apart := false }
def FnMeetAnyOrderSaid : Prop := fnMeetAnyOrderRow.holds Try.pinned (OpenSpec.ofChange fnMeetAnyOrderSpec)

/-- ITS FALSE NEIGHBOUR: 'it returns false'. Refute it at one input. -/
def fnMeetAnyOrderWrong : ChangeSpec := { name := "fnMeetAnyOrder", fn := fun _ => fun
  | [d1, d2] => { results := [.lit (.bool false)], args := [d1, d2] }
  | _ => none }
def FnMeetAnyOrderWrongFalsely : Prop := fnMeetAnyOrderRow.holds Try.pinned (OpenSpec.ofChange fnMeetAnyOrderWrong)

/-- 'laws.FnStrips': WHATEVER THE INPUT: true; the input reads as it did. -/
def fnStripsSpec : ChangeSpec := { name := "fnStrips", fn := fun _ => fun
  | [d1, d2] => { results := [.lit (.bool true)], args := [d1, d2] }
  | _ => none }
def fnStripsRow : OpenClaim := { program := "ytojplcchoffapaa", sum := "4dd7334af94e868df4741e390b4c76aacb1bca9328b03ba55e409c0d10a82179", func := "loop.example/lib-g01428/laws.FnStrips", spec := "fnStrips", apart := false }
def FnStripsSaid : Prop := fnStripsRow.holds Try.pinned (OpenSpec.ofChange fnStripsSpec)

/-- ITS FALSE NEIGHBOUR: 'it returns false'. Refute it at one input. -/
def fnStripsWrong : ChangeSpec := { name := "fnStrips", fn := fun _ => fun
  | [d1, d2] => { results := [.lit (.bool false)], args := [d1, d2] }
  | _ => none }
def FnStripsWrongFalsely : Prop := fnStripsRow.holds Try.pinned (OpenSpec.ofChange fnStripsWrong)

/-- 'laws.FnMeetOfPairs': WHATEVER THE INPUT: true; the input reads as it did. -/
def fnMeetOfPairsSpec : ChangeSpec := { name := "fnMeetOfPairs", fn := fun _ => fun
  | [d] => { results := [.lit (.bool true)], args := [d] }
  | _ => none }
def fnMeetOfPairsRow : OpenClaim := { program := "ytojplcchoffapaa", sum := "4dd7334af94e868df4741e390b4c76aacb1bca9328b03ba55e409c0d10a82179", func := "loop.example/lib-g01428/laws.FnMeetOfPairs", spec := "fnMeetOfPairs", apart := false }
def FnMeetOfPairsSaid : Prop := fnMeetOfPairsRow.holds Try.pinned (OpenSpec.ofChange fnMeetOfPairsSpec)

/-- ITS FALSE NEIGHBOUR: 'it returns false'. Refute it at one input. -/
def fnMeetOfPairsWrong : ChangeSpec := { name := "fnMeetOfPairs", fn := fun _ => fun
  | [d] => { results := [.lit (.bool false)], args := [d] }
  | _ => none }
def FnMeetOfPairsWrongFalsely : Prop := fnMeetOfPairsRow.holds Try.pinned (OpenSpec.ofChange fnMeetOfPairsWrong)

/-- 'laws.FnMeetPoints': WHATEVER THE INPUT: true; the input reads as it did. -/
def fnMeetPointsSpec : ChangeSpec := { name := "fnMeetPoints", fn := fun _ => fun
  | [d1, d2, d3] => { results := [.lit (.bool true)], args := [d1, d2, d3] }
  | _ => none }
def fnMeetPointsRow : OpenClaim := { program := "ytojplcchoffapaa", sum := "4dd7334af94e868df4741e390b4c76aacb1bca9328b03ba55e409c0d10a82179", func := "loop.example/lib-g01428/laws.FnMeetPoints", spec := "fnMeetPoints", apart := false }
def FnMeetPointsSaid : Prop := fnMeetPointsRow.holds Try.pinned (OpenSpec.ofChange fnMeetPointsSpec)

/-- ITS FALSE NEIGHBOUR: 'it returns false'. Refute it at one input. -/
def fnMeetPointsWrong : ChangeSpec := { name := "fnMeetPoints", fn := fun _ => fun
  | [d1, d2, d3] => { results := [.lit (.bool false)], args := [d1, d2, d3] }
  | _ => none }
def FnMeetPointsWrongFalsely : Prop := fnMeetPointsRow.holds Try.pinned (OpenSpec.ofChange fnMeetPointsWrong)

/-- 'laws.FnSieve': WHATEVER THE INPUT: true; the input reads as it did. -/
def fnSieveSpec : ChangeSpec := { name := "fnSieve", fn := fun _ => fun
  | [d] => { results := [.lit (.bool true)], args := [d] }
  | _ => none }
def fnSieveRow : OpenClaim := { program := "ytojplcchoffapaa", sum := "4dd7334af94e868df4741e390b4c76aacb1bca9328b03ba55e409c0d10a82179", func := "loop.example/lib-g01428/laws.FnSieve", spec := "fnSieve", apart := false }
def FnSieveSaid : Prop := fnSieveRow.holds Try.pinned (OpenSpec.ofChange fnSieveSpec)

/-- ITS FALSE NEIGHBOUR: 'it returns false'. Refute it at one input. -/
def fnSieveWrong : ChangeSpec := { name := "fnSieve", fn := fun _ => fun
  | [d] => { results := [.lit (.bool false)], args := [d] }
  | _ => none }
def FnSieveWrongFalsely : Prop := fnSieveRow.holds Try.pinned (OpenSpec.ofChange fnSieveWrong)

/- THE SECOND FORM. 'bulk': how many values and letters a reading holds, each counted each time it is reached (what is shared counts as often as it is met; a slice's spare places count too). A statement '..UptoSaid' is the law's where the arguments, and the package variables that the reading takes, are together of bulk at most 1048576: NARROWER than '..Said'. Prove '..Said' where nothing that the law and all that it calls make is longer than what came in: it says more and counts as full. Else prove '..UptoSaid'. A law counts once. -/
mutual
def uptoBulk {H : Type} : DataW H → Nat
  | .lit (.string bytes) => bytes.length + 1
  | .lit _ => 1
  | .nil => 1
  | .ptr d => uptoBulk d + 1
  | .slice elems spare => uptoBulkAll elems + uptoBulkAll spare + 1
  | .agg parts => uptoBulkAll parts + 1
  | .iface _ d => uptoBulk d + 1
  | .map entries => uptoBulkEntries entries + 1
  | .held _ => 1
def uptoBulkAll {H : Type} : List (DataW H) → Nat
  | [] => 0
  | d :: r => uptoBulk d + uptoBulkAll r
def uptoBulkEntries {H : Type} : List (Lit × DataW H) → Nat
  | [] => 0
  | x :: r => uptoBulkEntry x + uptoBulkEntries r
def uptoBulkEntry {H : Type} : Lit × DataW H → Nat
  | (.string bytes, d) => bytes.length + uptoBulk d + 1
  | (_, d) => uptoBulk d + 1
 end
def uptoSmall : (H : Type) → List (DataW H) → Bool := fun _ ds => decide (uptoBulkAll ds ≤ 1048576)
def OpenSpec.upto (s : _root_.Go.ChangeSpec) : _root_.Go.OpenSpec := { _root_.Go.OpenSpec.ofChange s with cond := some uptoSmall }

/-- 'laws.FnCorners', WHERE WHAT IT READS IS OF BULK AT MOST 1048576: true; the input reads as it did. -/
def fnCornersUptoRow : OpenClaim := { program := "ytojplcchoffapaa", sum := "4dd7334af94e868df4741e390b4c76aacb1bca9328b03ba55e409c0d10a82179", func := "loop.example/lib-g01428/laws.FnCorners", spec := "fnCorners", apart := false, narrowed := true }
def FnCornersUptoSaid : Prop := fnCornersUptoRow.holds Try.pinned (OpenSpec.upto fnCornersSpec)

/-- 'laws.FnModSums', WHERE WHAT IT READS IS OF BULK AT MOST 1048576: true; the input reads as it did. -/
def fnModSumsUptoRow : OpenClaim := { program := "ytojplcchoffapaa", sum := "4dd7334af94e868df4741e390b4c76aacb1bca9328b03ba55e409c0d10a82179", func := "loop.example/lib-g01428/laws.FnModSums", spec := "fnModSums", unfollowed := true, recurses := true, apart := false, narrowed := true }
def FnModSumsUptoSaid : Prop := fnModSumsUptoRow.holds Try.pinned (OpenSpec.upto fnModSumsSpec)

/-- 'laws.FnJoinCut', WHERE WHAT IT READS IS OF BULK AT MOST 1048576: true; the input reads as it did. -/
def fnJoinCutUptoRow : OpenClaim := { program := "ytojplcchoffapaa", sum := "4dd7334af94e868df4741e390b4c76aacb1bca9328b03ba55e409c0d10a82179", func := "loop.example/lib-g01428/laws.FnJoinCut", spec := "fnJoinCut", apart := false, narrowed := true }
def FnJoinCutUptoSaid : Prop := fnJoinCutUptoRow.holds Try.pinned (OpenSpec.upto fnJoinCutSpec)

/-- 'laws.FnModWindow', WHERE WHAT IT READS IS OF BULK AT MOST 1048576: true; the input reads as it did. -/
def fnModWindowUptoRow : OpenClaim := { program := "ytojplcchoffapaa", sum := "4dd7334af94e868df4741e390b4c76aacb1bca9328b03ba55e409c0d10a82179", func := "loop.example/lib-g01428/laws.FnModWindow", spec := "fnModWindow", unfollowed := true, recurses := true, apart := false, narrowed := true }
def FnModWindowUptoSaid : Prop := fnModWindowUptoRow.holds Try.pinned (OpenSpec.upto fnModWindowSpec)

/-- 'laws.FnJoinAnyOrder', WHERE WHAT IT READS IS OF BULK AT MOST 1048576: true; the input reads as it did. -/
def fnJoinAnyOrderUptoRow : OpenClaim := { program := "ytojplcchoffapaa", sum := "4dd7334af94e868df4741e390b4c76aacb1bca9328b03ba55e409c0d10a82179", func := "loop.example/lib-g01428/laws.FnJoinAnyOrder", spec := "fnJoinAnyOrder", apart := false, narrowed := true }
def FnJoinAnyOrderUptoSaid : Prop := fnJoinAnyOrderUptoRow.holds Try.pinned (OpenSpec.upto fnJoinAnyOrderSpec)

/-- 'laws.FnMeetCut', WHERE WHAT IT READS IS OF BULK AT MOST 1048576: true; the input reads as it did. -/
def fnMeetCutUptoRow : OpenClaim := { program := "ytojplcchoffapaa", sum := "4dd7334af94e868df4741e390b4c76aacb1bca9328b03ba55e409c0d10a82179", func := "loop.example/lib-g01428/laws.FnMeetCut", spec := "fnMeetCut", apart := false, narrowed := true }
def FnMeetCutUptoSaid : Prop := fnMeetCutUptoRow.holds Try.pinned (OpenSpec.upto fnMeetCutSpec)

/-- 'laws.FnJoinLeast', WHERE WHAT IT READS IS OF BULK AT MOST 1048576: true; the input reads as it did. -/
def fnJoinLeastUptoRow : OpenClaim := { program := "ytojplcchoffapaa", sum := "4dd7334af94e868df4741e390b4c76aacb1bca9328b03ba55e409c0d10a82179", func := "loop.example/lib-g01428/laws.FnJoinLeast", spec := "fnJoinLeast", apart := false, narrowed := true }
def FnJoinLeastUptoSaid : Prop := fnJoinLeastUptoRow.holds Try.pinned (OpenSpec.upto fnJoinLeastSpec)

/-- 'laws.FnMeetAnyOrder', WHERE WHAT IT READS IS OF BULK AT MOST 1048576: true; the input reads as it did. -/
def fnMeetAnyOrderUptoRow : OpenClaim := { program := "ytojplcchoffapaa", sum := "4dd7334af94e868df4741e390b4c76aacb1bca9328b03ba55e409c0d10a82179", func := "loop.example/lib-g01428/laws.FnMeetAnyOrder", spec := "fnMeetAnyOrder", apart := false, narrowed := true }
def FnMeetAnyOrderUptoSaid : Prop := fnMeetAnyOrderUptoRow.holds Try.pinned (OpenSpec.upto fnMeetAnyOrderSpec)

/-- 'laws.FnStrips', WHERE WHAT IT READS IS OF BULK AT MOST 1048576: true; the input reads as it did. -/
def fnStripsUptoRow : OpenClaim := { program := "ytojplcchoffapaa", sum := "4dd7334af94e868df4741e390b4c76aacb1bca9328b03ba55e409c0d10a82179", func := "loop.example/lib-g01428/laws.FnStrips", spec := "fnStrips", apart := false, narrowed := true }
def FnStripsUptoSaid : Prop := fnStripsUptoRow.holds Try.pinned (OpenSpec.upto fnStripsSpec)

/-- 'laws.FnMeetOfPairs', WHERE WHAT IT READS IS OF BULK AT MOST 1048576: true; the input reads as it did. -/
def fnMeetOfPairsUptoRow : OpenClaim := { program := "ytojplcchoffapaa", sum := "4dd7334af94e868df4741e390b4c76aacb1bca9328b03ba55e409c0d10a82179", func := "loop.example/lib-g01428/laws.FnMeetOfPairs", spec := "fnMeetOfPairs", apart := false, narrowed := true }
def FnMeetOfPairsUptoSaid : Prop := fnMeetOfPairsUptoRow.holds Try.pinned (OpenSpec.upto fnMeetOfPairsSpec)

/-- 'laws.FnMeetPoints', WHERE WHAT IT READS IS OF BULK AT MOST 1048576: true; the input reads as it did. -/
def fnMeetPointsUptoRow : OpenClaim := { program := "ytojplcchoffapaa", sum := "4dd7334af94e868df4741e390b4c76aacb1bca9328b03ba55e409c0d10a82179", func := "loop.example/lib-g01428/laws.FnMeetPoints", spec := "fnMeetPoints", apart := false, narrowed := true }
def FnMeetPointsUptoSaid : Prop := fnMeetPointsUptoRow.holds Try.pinned (OpenSpec.upto fnMeetPointsSpec)

/-- 'laws.FnSieve', WHERE WHAT IT READS IS OF BULK AT MOST 1048576: true; the input reads as it did. -/
def fnSieveUptoRow : OpenClaim := { program := "ytojplcchoffapaa", sum := "4dd7334af94e868df4741e390b4c76aacb1bca9328b03ba55e409c0d10a82179", func := "loop.example/lib-g01428/laws.FnSieve", spec := "fnSieve", apart := false, narrowed := true }
def FnSieveUptoSaid : Prop := fnSieveUptoRow.holds Try.pinned (OpenSpec.upto fnSieveSpec)

end Rows
end Go.Proofs.Ytojplcchoffapaa
