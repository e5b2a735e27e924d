/-
  No cell of these rows narrows 'for every input' (looked for: loops, veiled, ifaces, maps, wideKeys, modest, calm, conditions, laid).
  DERIVED. THE GIVEN ROWS OF THIS SEAT. 14 by the template 'for every input the law returns true; each argument reads behind the call as it read before'; 0 by the template 'total and deterministic' (their statements: YtboeldlilkeihaaTotals.lean).
  GIVEN WITH THE SEED: the statements are not yours to turn. If you find one false, say at which input.
  Laid BY PROGRAM, IN A SANDBOX (cutbox-rows.mjs): the forced cells as the released guide's own fill.sh prints them over the translation 21f7e92f56977983… (all of the seat's roots in one cut). By AI agents, Wed Nov 11 2026. No macro, syntax, notation, axiom, sorry.
-/
import Derived.Test.YtboeldlilkeihaaChecked
import GoSem.Claim
import GoSem.ClaimJoined
import GoSem.ClaimMapViews
import Derived.JoinedTies
import Derived.KernelRfl
namespace Go.Proofs.Ytboeldlilkeihaa
/- THE CELL 'sum', in the pinned program and in every row, IS THE sha256 OF THE DUMP (.gsa) THAT YtboeldlilkeihaaProg.lean LOADS. Nothing in Lean hashes anything: it is a label: what it is worth is what the hold of that sum in a sandbox is worth. -/
noncomputable def Try.pinned : Pinned := { name := "ytboeldlilkeihaa", sum := "21f7e92f56977983a91268fe7f534be0237cccfea4de003caf6c55815c967250", checked := Try.checked }
namespace Rows
def none {H : Type} : Left H := { results := [], args := [] }

/-- 'laws.FnSearchAll': WHATEVER THE INPUT: true; the input reads as it did. -/
def fnSearchAllSpec : ChangeSpec := { name := "fnSearchAll", fn := fun _ => fun
  | [d] => { results := [.lit (.bool true)], args := [d] }
  | _ => none }
def fnSearchAllRow : OpenClaim := { program := "ytboeldlilkeihaa", sum := "21f7e92f56977983a91268fe7f534be0237cccfea4de003caf6c55815c967250", func := "loop.example/pub-boxtrees/laws.FnSearchAll", spec := "fnSearchAll", unfollowed := true, recurses := true, apart := false }
def FnSearchAllSaid : Prop := fnSearchAllRow.holds Try.pinned (OpenSpec.ofChange fnSearchAllSpec)

/-- ITS FALSE NEIGHBOUR: 'it returns false'. Refute it at one input. -/
def fnSearchAllWrong : ChangeSpec := { name := "fnSearchAll", fn := fun _ => fun
  | [d] => { results := [.lit (.bool false)], args := [d] }
  | _ => none }
def FnSearchAllWrongFalsely : Prop := fnSearchAllRow.holds Try.pinned (OpenSpec.ofChange fnSearchAllWrong)

/-- 'laws.FnExactNearby': WHATEVER THE INPUT: true; the input reads as it did. -/
def fnExactNearbySpec : ChangeSpec := { name := "fnExactNearby", fn := fun _ => fun
  | [d1, d2, d3, d4, d5, d6] => { results := [.lit (.bool true)], args := [d1, d2, d3, d4, d5, d6] }
  | _ => none }
def fnExactNearbyRow : OpenClaim := { program := "ytboeldlilkeihaa", sum := "21f7e92f56977983a91268fe7f534be0237cccfea4de003caf6c55815c967250", func := "loop.example/pub-boxtrees/laws.FnExactNearby", spec := "fnExactNearby", unfollowed := true, recurses := true, apart := false }
def FnExactNearbySaid : Prop := fnExactNearbyRow.holds Try.pinned (OpenSpec.ofChange fnExactNearbySpec)

/-- ITS FALSE NEIGHBOUR: 'it returns false'. Refute it at one input. -/
def fnExactNearbyWrong : ChangeSpec := { name := "fnExactNearby", fn := fun _ => fun
  | [d1, d2, d3, d4, d5, d6] => { results := [.lit (.bool false)], args := [d1, d2, d3, d4, d5, d6] }
  | _ => none }
def FnExactNearbyWrongFalsely : Prop := fnExactNearbyRow.holds Try.pinned (OpenSpec.ofChange fnExactNearbyWrong)

/-- 'laws.FnNearbyAll': WHATEVER THE INPUT: true; the input reads as it did. -/
def fnNearbyAllSpec : ChangeSpec := { name := "fnNearbyAll", fn := fun _ => fun
  | [d1, d2, d3] => { results := [.lit (.bool true)], args := [d1, d2, d3] }
  | _ => none }
def fnNearbyAllRow : OpenClaim := { program := "ytboeldlilkeihaa", sum := "21f7e92f56977983a91268fe7f534be0237cccfea4de003caf6c55815c967250", func := "loop.example/pub-boxtrees/laws.FnNearbyAll", spec := "fnNearbyAll", unfollowed := true, recurses := true, apart := false }
def FnNearbyAllSaid : Prop := fnNearbyAllRow.holds Try.pinned (OpenSpec.ofChange fnNearbyAllSpec)

/-- ITS FALSE NEIGHBOUR: 'it returns false'. Refute it at one input. -/
def fnNearbyAllWrong : ChangeSpec := { name := "fnNearbyAll", fn := fun _ => fun
  | [d1, d2, d3] => { results := [.lit (.bool false)], args := [d1, d2, d3] }
  | _ => none }
def FnNearbyAllWrongFalsely : Prop := fnNearbyAllRow.holds Try.pinned (OpenSpec.ofChange fnNearbyAllWrong)

/-- 'laws.FnExactLen': WHATEVER THE INPUT: true; the input reads as it did. -/
def fnExactLenSpec : ChangeSpec := { name := "fnExactLen", fn := fun _ => fun
  | [d] => { results := [.lit (.bool true)], args := [d] }
  | _ => none }
def fnExactLenRow : OpenClaim := { program := "ytboeldlilkeihaa", sum := "21f7e92f56977983a91268fe7f534be0237cccfea4de003caf6c55815c967250", func := "loop.example/pub-boxtrees/laws.FnExactLen", spec := "fnExactLen", recurses := true, apart := false }
def FnExactLenSaid : Prop := fnExactLenRow.holds Try.pinned (OpenSpec.ofChange fnExactLenSpec)

/-- ITS FALSE NEIGHBOUR: 'it returns false'. Refute it at one input. -/
def fnExactLenWrong : ChangeSpec := { name := "fnExactLen", fn := fun _ => fun
  | [d] => { results := [.lit (.bool false)], args := [d] }
  | _ => none }
def FnExactLenWrongFalsely : Prop := fnExactLenRow.holds Try.pinned (OpenSpec.ofChange fnExactLenWrong)

/-- 'laws.FnExactBounds': WHATEVER THE INPUT: true; the input reads as it did. -/
def fnExactBoundsSpec : ChangeSpec := { name := "fnExactBounds", fn := fun _ => fun
  | [d] => { results := [.lit (.bool true)], args := [d] }
  | _ => none }
def fnExactBoundsRow : OpenClaim := { program := "ytboeldlilkeihaa", sum := "21f7e92f56977983a91268fe7f534be0237cccfea4de003caf6c55815c967250", func := "loop.example/pub-boxtrees/laws.FnExactBounds", spec := "fnExactBounds", recurses := true, apart := false }
def FnExactBoundsSaid : Prop := fnExactBoundsRow.holds Try.pinned (OpenSpec.ofChange fnExactBoundsSpec)

/-- ITS FALSE NEIGHBOUR: 'it returns false'. Refute it at one input. -/
def fnExactBoundsWrong : ChangeSpec := { name := "fnExactBounds", fn := fun _ => fun
  | [d] => { results := [.lit (.bool false)], args := [d] }
  | _ => none }
def FnExactBoundsWrongFalsely : Prop := fnExactBoundsRow.holds Try.pinned (OpenSpec.ofChange fnExactBoundsWrong)

/-- 'laws.FnLevels': WHATEVER THE INPUT: true; the input reads as it did. -/
def fnLevelsSpec : ChangeSpec := { name := "fnLevels", fn := fun _ => fun
  | [d] => { results := [.lit (.bool true)], args := [d] }
  | _ => none }
def fnLevelsRow : OpenClaim := { program := "ytboeldlilkeihaa", sum := "21f7e92f56977983a91268fe7f534be0237cccfea4de003caf6c55815c967250", func := "loop.example/pub-boxtrees/laws.FnLevels", spec := "fnLevels", recurses := true, apart := false }
def FnLevelsSaid : Prop := fnLevelsRow.holds Try.pinned (OpenSpec.ofChange fnLevelsSpec)

/-- ITS FALSE NEIGHBOUR: 'it returns false'. Refute it at one input. -/
def fnLevelsWrong : ChangeSpec := { name := "fnLevels", fn := fun _ => fun
  | [d] => { results := [.lit (.bool false)], args := [d] }
  | _ => none }
def FnLevelsWrongFalsely : Prop := fnLevelsRow.holds Try.pinned (OpenSpec.ofChange fnLevelsWrong)

/-- 'laws.FnDepth': WHATEVER THE INPUT: true; the input reads as it did. -/
def fnDepthSpec : ChangeSpec := { name := "fnDepth", fn := fun _ => fun
  | [d] => { results := [.lit (.bool true)], args := [d] }
  | _ => none }
def fnDepthRow : OpenClaim := { program := "ytboeldlilkeihaa", sum := "21f7e92f56977983a91268fe7f534be0237cccfea4de003caf6c55815c967250", func := "loop.example/pub-boxtrees/laws.FnDepth", spec := "fnDepth", recurses := true, apart := false }
def FnDepthSaid : Prop := fnDepthRow.holds Try.pinned (OpenSpec.ofChange fnDepthSpec)

/-- ITS FALSE NEIGHBOUR: 'it returns false'. Refute it at one input. -/
def fnDepthWrong : ChangeSpec := { name := "fnDepth", fn := fun _ => fun
  | [d] => { results := [.lit (.bool false)], args := [d] }
  | _ => none }
def FnDepthWrongFalsely : Prop := fnDepthRow.holds Try.pinned (OpenSpec.ofChange fnDepthWrong)

/-- 'laws.FnExactScan': WHATEVER THE INPUT: true; the input reads as it did. -/
def fnExactScanSpec : ChangeSpec := { name := "fnExactScan", fn := fun _ => fun
  | [d] => { results := [.lit (.bool true)], args := [d] }
  | _ => none }
def fnExactScanRow : OpenClaim := { program := "ytboeldlilkeihaa", sum := "21f7e92f56977983a91268fe7f534be0237cccfea4de003caf6c55815c967250", func := "loop.example/pub-boxtrees/laws.FnExactScan", spec := "fnExactScan", unfollowed := true, recurses := true, apart := false }
def FnExactScanSaid : Prop := fnExactScanRow.holds Try.pinned (OpenSpec.ofChange fnExactScanSpec)

/-- ITS FALSE NEIGHBOUR: 'it returns false'. Refute it at one input. -/
def fnExactScanWrong : ChangeSpec := { name := "fnExactScan", fn := fun _ => fun
  | [d] => { results := [.lit (.bool false)], args := [d] }
  | _ => none }
def FnExactScanWrongFalsely : Prop := fnExactScanRow.holds Try.pinned (OpenSpec.ofChange fnExactScanWrong)

/-- 'laws.FnEmptied': WHATEVER THE INPUT: true; the input reads as it did. -/
def fnEmptiedSpec : ChangeSpec := { name := "fnEmptied", fn := fun _ => fun
  | [d1, d2] => { results := [.lit (.bool true)], args := [d1, d2] }
  | _ => none }
def fnEmptiedRow : OpenClaim := { program := "ytboeldlilkeihaa", sum := "21f7e92f56977983a91268fe7f534be0237cccfea4de003caf6c55815c967250", func := "loop.example/pub-boxtrees/laws.FnEmptied", spec := "fnEmptied", unfollowed := true, recurses := true, apart := false }
def FnEmptiedSaid : Prop := fnEmptiedRow.holds Try.pinned (OpenSpec.ofChange fnEmptiedSpec)

/-- ITS FALSE NEIGHBOUR: 'it returns false'. Refute it at one input. -/
def fnEmptiedWrong : ChangeSpec := { name := "fnEmptied", fn := fun _ => fun
  | [d1, d2] => { results := [.lit (.bool false)], args := [d1, d2] }
  | _ => none }
def FnEmptiedWrongFalsely : Prop := fnEmptiedRow.holds Try.pinned (OpenSpec.ofChange fnEmptiedWrong)

/-- 'laws.FnCopyApart': WHATEVER THE INPUT: true; the input reads as it did. -/
def fnCopyApartSpec : ChangeSpec := { name := "fnCopyApart", fn := fun _ => fun
  | [d1, d2, d3] => { results := [.lit (.bool true)], args := [d1, d2, d3] }
  | _ => none }
def fnCopyApartRow : OpenClaim := { program := "ytboeldlilkeihaa", sum := "21f7e92f56977983a91268fe7f534be0237cccfea4de003caf6c55815c967250", func := "loop.example/pub-boxtrees/laws.FnCopyApart", spec := "fnCopyApart", unfollowed := true, recurses := true, apart := false }
def FnCopyApartSaid : Prop := fnCopyApartRow.holds Try.pinned (OpenSpec.ofChange fnCopyApartSpec)

/-- ITS FALSE NEIGHBOUR: 'it returns false'. Refute it at one input. -/
def fnCopyApartWrong : ChangeSpec := { name := "fnCopyApart", fn := fun _ => fun
  | [d1, d2, d3] => { results := [.lit (.bool false)], args := [d1, d2, d3] }
  | _ => none }
def FnCopyApartWrongFalsely : Prop := fnCopyApartRow.holds Try.pinned (OpenSpec.ofChange fnCopyApartWrong)

/-- 'laws.FnExactSearch': WHATEVER THE INPUT: true; the input reads as it did. -/
def fnExactSearchSpec : ChangeSpec := { name := "fnExactSearch", fn := fun _ => fun
  | [d1, d2, d3, d4, d5] => { results := [.lit (.bool true)], args := [d1, d2, d3, d4, d5] }
  | _ => none }
def fnExactSearchRow : OpenClaim := { program := "ytboeldlilkeihaa", sum := "21f7e92f56977983a91268fe7f534be0237cccfea4de003caf6c55815c967250", func := "loop.example/pub-boxtrees/laws.FnExactSearch", spec := "fnExactSearch", unfollowed := true, recurses := true, apart := false }
def FnExactSearchSaid : Prop := fnExactSearchRow.holds Try.pinned (OpenSpec.ofChange fnExactSearchSpec)

/-- ITS FALSE NEIGHBOUR: 'it returns false'. Refute it at one input. -/
def fnExactSearchWrong : ChangeSpec := { name := "fnExactSearch", fn := fun _ => fun
  | [d1, d2, d3, d4, d5] => { results := [.lit (.bool false)], args := [d1, d2, d3, d4, d5] }
  | _ => none }
def FnExactSearchWrongFalsely : Prop := fnExactSearchRow.holds Try.pinned (OpenSpec.ofChange fnExactSearchWrong)

/-- 'laws.FnInsertOrder': WHATEVER THE INPUT: true; the input reads as it did. -/
def fnInsertOrderSpec : ChangeSpec := { name := "fnInsertOrder", fn := fun _ => fun
  | [d1, d2, d3, d4, d5] => { results := [.lit (.bool true)], args := [d1, d2, d3, d4, d5] }
  | _ => none }
def fnInsertOrderRow : OpenClaim := { program := "ytboeldlilkeihaa", sum := "21f7e92f56977983a91268fe7f534be0237cccfea4de003caf6c55815c967250", func := "loop.example/pub-boxtrees/laws.FnInsertOrder", spec := "fnInsertOrder", unfollowed := true, recurses := true, apart := false }
def FnInsertOrderSaid : Prop := fnInsertOrderRow.holds Try.pinned (OpenSpec.ofChange fnInsertOrderSpec)

/-- ITS FALSE NEIGHBOUR: 'it returns false'. Refute it at one input. -/
def fnInsertOrderWrong : ChangeSpec := { name := "fnInsertOrder", fn := fun _ => fun
  | [d1, d2, d3, d4, d5] => { results := [.lit (.bool false)], args := [d1, d2, d3, d4, d5] }
  | _ => none }
def FnInsertOrderWrongFalsely : Prop := fnInsertOrderRow.holds Try.pinned (OpenSpec.ofChange fnInsertOrderWrong)

/-- 'laws.FnSearchPoint': WHATEVER THE INPUT: true; the input reads as it did. -/
def fnSearchPointSpec : ChangeSpec := { name := "fnSearchPoint", fn := fun _ => fun
  | [d1, d2] => { results := [.lit (.bool true)], args := [d1, d2] }
  | _ => none }
def fnSearchPointRow : OpenClaim := { program := "ytboeldlilkeihaa", sum := "21f7e92f56977983a91268fe7f534be0237cccfea4de003caf6c55815c967250", func := "loop.example/pub-boxtrees/laws.FnSearchPoint", spec := "fnSearchPoint", unfollowed := true, recurses := true, apart := false }
def FnSearchPointSaid : Prop := fnSearchPointRow.holds Try.pinned (OpenSpec.ofChange fnSearchPointSpec)

/-- ITS FALSE NEIGHBOUR: 'it returns false'. Refute it at one input. -/
def fnSearchPointWrong : ChangeSpec := { name := "fnSearchPoint", fn := fun _ => fun
  | [d1, d2] => { results := [.lit (.bool false)], args := [d1, d2] }
  | _ => none }
def FnSearchPointWrongFalsely : Prop := fnSearchPointRow.holds Try.pinned (OpenSpec.ofChange fnSearchPointWrong)

/-- 'laws.FnExactEnds': WHATEVER THE INPUT: true; the input reads as it did. -/
def fnExactEndsSpec : ChangeSpec := { name := "fnExactEnds", fn := fun _ => fun
  | [d] => { results := [.lit (.bool true)], args := [d] }
  | _ => none }
def fnExactEndsRow : OpenClaim := { program := "ytboeldlilkeihaa", sum := "21f7e92f56977983a91268fe7f534be0237cccfea4de003caf6c55815c967250", func := "loop.example/pub-boxtrees/laws.FnExactEnds", spec := "fnExactEnds", recurses := true, apart := false }
def FnExactEndsSaid : Prop := fnExactEndsRow.holds Try.pinned (OpenSpec.ofChange fnExactEndsSpec)

/-- ITS FALSE NEIGHBOUR: 'it returns false'. Refute it at one input. -/
def fnExactEndsWrong : ChangeSpec := { name := "fnExactEnds", fn := fun _ => fun
  | [d] => { results := [.lit (.bool false)], args := [d] }
  | _ => none }
def FnExactEndsWrongFalsely : Prop := fnExactEndsRow.holds Try.pinned (OpenSpec.ofChange fnExactEndsWrong)

/- THE SECOND FORM. 'bulk': how many values and letters a reading holds, each counted each time it is reached (what is shared counts as often as it is met; a slice's spare places count too). A statement '..UptoSaid' is the law's where the arguments, and the package variables that the reading takes, are together of bulk at most 1048576: NARROWER than '..Said'. Prove '..Said' where nothing that the law and all that it calls make is longer than what came in: it says more and counts as full. Else prove '..UptoSaid'. A law counts once. -/
mutual
def uptoBulk {H : Type} : DataW H → Nat
  | .lit (.string bytes) => bytes.length + 1
  | .lit _ => 1
  | .nil => 1
  | .ptr d => uptoBulk d + 1
  | .slice elems spare => uptoBulkAll elems + uptoBulkAll spare + 1
  | .agg parts => uptoBulkAll parts + 1
  | .iface _ d => uptoBulk d + 1
  | .map entries => uptoBulkEntries entries + 1
  | .held _ => 1
def uptoBulkAll {H : Type} : List (DataW H) → Nat
  | [] => 0
  | d :: r => uptoBulk d + uptoBulkAll r
def uptoBulkEntries {H : Type} : List (Lit × DataW H) → Nat
  | [] => 0
  | x :: r => uptoBulkEntry x + uptoBulkEntries r
def uptoBulkEntry {H : Type} : Lit × DataW H → Nat
  | (.string bytes, d) => bytes.length + uptoBulk d + 1
  | (_, d) => uptoBulk d + 1
 end
def uptoSmall : (H : Type) → List (DataW H) → Bool := fun _ ds => decide (uptoBulkAll ds ≤ 1048576)
def OpenSpec.upto (s : _root_.Go.ChangeSpec) : _root_.Go.OpenSpec := { _root_.Go.OpenSpec.ofChange s with cond := some uptoSmall }

/-- 'laws.FnSearchAll', WHERE WHAT IT READS IS OF BULK AT MOST 1048576: true; the input reads as it did. -/
def fnSearchAllUptoRow : OpenClaim := { program := "ytboeldlilkeihaa", sum := "21f7e92f56977983a91268fe7f534be0237cccfea4de003caf6c55815c967250", func := "loop.example/pub-boxtrees/laws.FnSearchAll", spec := "fnSearchAll", unfollowed := true, recurses := true, apart := false, narrowed := true }
def FnSearchAllUptoSaid : Prop := fnSearchAllUptoRow.holds Try.pinned (OpenSpec.upto fnSearchAllSpec)

/-- 'laws.FnExactNearby', WHERE WHAT IT READS IS OF BULK AT MOST 1048576: true; the input reads as it did. -/
def fnExactNearbyUptoRow : OpenClaim := { program := "ytboeldlilkeihaa", sum := "21f7e92f56977983a91268fe7f534be0237cccfea4de003caf6c55815c967250", func := "loop.example/pub-boxtrees/laws.FnExactNearby", spec := "fnExactNearby", unfollowed := true, recurses := true, apart := false, narrowed := true }
def FnExactNearbyUptoSaid : Prop := fnExactNearbyUptoRow.holds Try.pinned (OpenSpec.upto fnExactNearbySpec)

/-- 'laws.FnNearbyAll', WHERE WHAT IT READS IS OF BULK AT MOST 1048576: true; the input reads as it did. -/
def fnNearbyAllUptoRow : OpenClaim := { program := "ytboeldlilkeihaa", sum := "21f7e92f56977983a91268fe7f534be0237cccfea4de003caf6c55815c967250", func := "loop.example/pub-boxtrees/laws.FnNearbyAll", spec := "fnNearbyAll", unfollowed := true, recurses := true, apart := false, narrowed := true }
def FnNearbyAllUptoSaid : Prop := fnNearbyAllUptoRow.holds Try.pinned (OpenSpec.upto fnNearbyAllSpec)

/-- 'laws.FnExactLen', WHERE WHAT IT READS IS OF BULK AT MOST 1048576: true; the input reads as it did. -/
def fnExactLenUptoRow : OpenClaim := { program := "ytboeldlilkeihaa", sum := "21f7e92f56977983a91268fe7f534be0237cccfea4de003caf6c55815c967250", func := "loop.example/pub-boxtrees/laws.FnExactLen", spec := "fnExactLen", recurses := true, apart := false, narrowed := true }
def FnExactLenUptoSaid : Prop := fnExactLenUptoRow.holds Try.pinned (OpenSpec.upto fnExactLenSpec)

/-- 'laws.FnExactBounds', WHERE WHAT IT READS IS OF BULK AT MOST 1048576: true; the input reads as it did. -/
def fnExactBoundsUptoRow : OpenClaim := { program := "ytboeldlilkeihaa", sum := "21f7e92f56977983a91268fe7f534be0237cccfea4de003caf6c55815c967250", func := "loop.example/pub-boxtrees/laws.FnExactBounds", spec := "fnExactBounds", recurses := true, apart := false, narrowed := true }
def FnExactBoundsUptoSaid : Prop := fnExactBoundsUptoRow.holds Try.pinned (OpenSpec.upto fnExactBoundsSpec)

/-- 'laws.FnLevels', WHERE WHAT IT READS IS OF BULK AT MOST 1048576: true; the input reads as it did. -/
def fnLevelsUptoRow : OpenClaim := { program := "ytboeldlilkeihaa", sum := "21f7e92f56977983a91268fe7f534be0237cccfea4de003caf6c55815c967250", func := "loop.example/pub-boxtrees/laws.FnLevels", spec := "fnLevels", recurses := true, apart := false, narrowed := true }
def FnLevelsUptoSaid : Prop := fnLevelsUptoRow.holds Try.pinned (OpenSpec.upto fnLevelsSpec)

/-- 'laws.FnDepth', WHERE WHAT IT READS IS OF BULK AT MOST 1048576: true; the input reads as it did. -/
def fnDepthUptoRow : OpenClaim := { program := "ytboeldlilkeihaa", sum := "21f7e92f56977983a91268fe7f534be0237cccfea4de003caf6c55815c967250", func := "loop.example/pub-boxtrees/laws.FnDepth", spec := "fnDepth", recurses := true, apart := false, narrowed := true }
def FnDepthUptoSaid : Prop := fnDepthUptoRow.holds Try.pinned (OpenSpec.upto fnDepthSpec)

/-- 'laws.FnExactScan', WHERE WHAT IT READS IS OF BULK AT MOST 1048576: true; the input reads as it did. -/
def fnExactScanUptoRow : OpenClaim := { program := "ytboeldlilkeihaa", sum := "21f7e92f56977983a91268fe7f534be0237cccfea4de003caf6c55815c967250", func := "loop.example/pub-boxtrees/laws.FnExactScan", spec := "fnExactScan", unfollowed := true, recurses := true, apart := false, narrowed := true }
def FnExactScanUptoSaid : Prop := fnExactScanUptoRow.holds Try.pinned (OpenSpec.upto fnExactScanSpec)

/-- 'laws.FnEmptied', WHERE WHAT IT READS IS OF BULK AT MOST 1048576: true; the input reads as it did. -/
def fnEmptiedUptoRow : OpenClaim := { program := "ytboeldlilkeihaa", sum := "21f7e92f56977983a91268fe7f534be0237cccfea4de003caf6c55815c967250", func := "loop.example/pub-boxtrees/laws.FnEmptied", spec := "fnEmptied", unfollowed := true, recurses := true, apart := false, narrowed := true }
def FnEmptiedUptoSaid : Prop := fnEmptiedUptoRow.holds Try.pinned (OpenSpec.upto fnEmptiedSpec)

/-- 'laws.FnCopyApart', WHERE WHAT IT READS IS OF BULK AT MOST 1048576: true; the input reads as it did. -/
def fnCopyApartUptoRow : OpenClaim := { program := "ytboeldlilkeihaa", sum := "21f7e92f56977983a91268fe7f534be0237cccfea4de003caf6c55815c967250", func := "loop.example/pub-boxtrees/laws.FnCopyApart", spec := "fnCopyApart", unfollowed := true, recurses := true, apart := false, narrowed := true }
def FnCopyApartUptoSaid : Prop := fnCopyApartUptoRow.holds Try.pinned (OpenSpec.upto fnCopyApartSpec)

/-- 'laws.FnExactSearch', WHERE WHAT IT READS IS OF BULK AT MOST 1048576: true; the input reads as it did. -/
def fnExactSearchUptoRow : OpenClaim := { program := "ytboeldlilkeihaa", sum := "21f7e92f56977983a91268fe7f534be0237cccfea4de003caf6c55815c967250", func := "loop.example/pub-boxtrees/laws.FnExactSearch", spec := "fnExactSearch", unfollowed := true, recurses := true, apart := false, narrowed := true }
def FnExactSearchUptoSaid : Prop := fnExactSearchUptoRow.holds Try.pinned (OpenSpec.upto fnExactSearchSpec)

/-- 'laws.FnInsertOrder', WHERE WHAT IT READS IS OF BULK AT MOST 1048576: true; the input reads as it did. -/
def fnInsertOrderUptoRow : OpenClaim := { program := "ytboeldlilkeihaa", sum := "21f7e92f56977983a91268fe7f534be0237cccfea4de003caf6c55815c967250", func := "loop.example/pub-boxtrees/laws.FnInsertOrder", spec := "fnInsertOrder", unfollowed := true, recurses := true, apart := false, narrowed := true }
def FnInsertOrderUptoSaid : Prop := fnInsertOrderUptoRow.holds Try.pinned (OpenSpec.upto fnInsertOrderSpec)

/-- 'laws.FnSearchPoint', WHERE WHAT IT READS IS OF BULK AT MOST 1048576: true; the input reads as it did. -/
def fnSearchPointUptoRow : OpenClaim := { program := "ytboeldlilkeihaa", sum := "21f7e92f56977983a91268fe7f534be0237cccfea4de003caf6c55815c967250", func := "loop.example/pub-boxtrees/laws.FnSearchPoint", spec := "fnSearchPoint", unfollowed := true, recurses := true, apart := false, narrowed := true }
def FnSearchPointUptoSaid : Prop := fnSearchPointUptoRow.holds Try.pinned (OpenSpec.upto fnSearchPointSpec)

/-- 'laws.FnExactEnds', WHERE WHAT IT READS IS OF BULK AT MOST 1048576: true; the input reads as it did. -/
def fnExactEndsUptoRow : OpenClaim := { program := "ytboeldlilkeihaa", sum := "21f7e92f56977983a91268fe7f534be0237cccfea4de003caf6c55815c967250", func := "loop.example/pub-boxtrees/laws.FnExactEnds", spec := "fnExactEnds", recurses := true, apart := false, narrowed := true }
def FnExactEndsUptoSaid : Prop := fnExactEndsUptoRow.holds Try.pinned (OpenSpec.upto fnExactEndsSpec)

end Rows
end Go.Proofs.Ytboeldlilkeihaa
