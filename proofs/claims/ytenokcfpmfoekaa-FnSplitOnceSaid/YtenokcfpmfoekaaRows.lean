/-
  No cell of these rows narrows 'for every input' (looked for: loops, veiled, ifaces, maps, wideKeys, modest, calm, conditions, laid).
  DERIVED. THE GIVEN ROWS OF THIS SEAT. 10 by the template 'for every input the law returns true; each argument reads behind the call as it read before'; 0 by the template 'total and deterministic' (their statements: YtenokcfpmfoekaaTotals.lean).
  GIVEN WITH THE SEED: the statements are not yours to turn. If you find one false, say at which input.
  Laid BY PROGRAM, IN A SANDBOX (cutbox-rows.mjs): the forced cells as the released guide's own fill.sh prints them over the translation af9319673cf6e33f… (all of the seat's roots in one cut). By AI agents, Wed Nov 11 2026. No macro, syntax, notation, axiom, sorry.
-/
import Derived.Test.YtenokcfpmfoekaaChecked
import GoSem.Claim
import GoSem.ClaimJoined
import GoSem.ClaimMapViews
import Derived.JoinedTies
import Derived.KernelRfl
namespace Go.Proofs.Ytenokcfpmfoekaa
/- THE CELL 'sum', in the pinned program and in every row, IS THE sha256 OF THE DUMP (.gsa) THAT YtenokcfpmfoekaaProg.lean LOADS. Nothing in Lean hashes anything: it is a label: what it is worth is what the hold of that sum in a sandbox is worth. -/
noncomputable def Try.pinned : Pinned := { name := "ytenokcfpmfoekaa", sum := "af9319673cf6e33ff00708522098c5d35e795834eb3d005e296c2b4cd3061dd7", checked := Try.checked }
namespace Rows
def none {H : Type} : Left H := { results := [], args := [] }

/-- 'laws.FnExactOnedge': WHATEVER THE INPUT: true; the input reads as it did. -/
def fnExactOnedgeSpec : ChangeSpec := { name := "fnExactOnedge", fn := fun _ => fun
  | [d1, d2, d3, d4, d5, d6, d7, d8] => { results := [.lit (.bool true)], args := [d1, d2, d3, d4, d5, d6, d7, d8] }
  | _ => none }
def fnExactOnedgeRow : OpenClaim := { program := "ytenokcfpmfoekaa", sum := "af9319673cf6e33ff00708522098c5d35e795834eb3d005e296c2b4cd3061dd7", func := "loop.example/pub-boxtrees/laws.FnExactOnedge", spec := "fnExactOnedge", apart := false }
def FnExactOnedgeSaid : Prop := fnExactOnedgeRow.holds Try.pinned (OpenSpec.ofChange fnExactOnedgeSpec)

/-- ITS FALSE NEIGHBOUR: 'it returns false'. Refute it at one input. -/
def fnExactOnedgeWrong : ChangeSpec := { name := "fnExactOnedge", fn := fun _ => fun
  | [d1, d2, d3, d4, d5, d6, d7, d8] => { results := [.lit (.bool false)], args := [d1, d2, d3, d4, d5, d6, d7, d8] }
  | _ => none }
def FnExactOnedgeWrongFalsely : Prop := fnExactOnedgeRow.holds Try.pinned (OpenSpec.ofChange fnExactOnedgeWrong)

/-- 'laws.FnExactAxis': WHATEVER THE INPUT: true; the input reads as it did. -/
def fnExactAxisSpec : ChangeSpec := { name := "fnExactAxis", fn := fun _ => fun
  | [d1, d2, d3, d4] => { results := [.lit (.bool true)], args := [d1, d2, d3, d4] }
  | _ => none }
def fnExactAxisRow : OpenClaim := { program := "ytenokcfpmfoekaa", sum := "af9319673cf6e33ff00708522098c5d35e795834eb3d005e296c2b4cd3061dd7", func := "loop.example/pub-boxtrees/laws.FnExactAxis", spec := "fnExactAxis", apart := false }
def FnExactAxisSaid : Prop := fnExactAxisRow.holds Try.pinned (OpenSpec.ofChange fnExactAxisSpec)

/-- ITS FALSE NEIGHBOUR: 'it returns false'. Refute it at one input. -/
def fnExactAxisWrong : ChangeSpec := { name := "fnExactAxis", fn := fun _ => fun
  | [d1, d2, d3, d4] => { results := [.lit (.bool false)], args := [d1, d2, d3, d4] }
  | _ => none }
def FnExactAxisWrongFalsely : Prop := fnExactAxisRow.holds Try.pinned (OpenSpec.ofChange fnExactAxisWrong)

/-- 'laws.FnExactExpand': WHATEVER THE INPUT: true; the input reads as it did. -/
def fnExactExpandSpec : ChangeSpec := { name := "fnExactExpand", fn := fun _ => fun
  | [d1, d2, d3, d4, d5, d6, d7, d8] => { results := [.lit (.bool true)], args := [d1, d2, d3, d4, d5, d6, d7, d8] }
  | _ => none }
def fnExactExpandRow : OpenClaim := { program := "ytenokcfpmfoekaa", sum := "af9319673cf6e33ff00708522098c5d35e795834eb3d005e296c2b4cd3061dd7", func := "loop.example/pub-boxtrees/laws.FnExactExpand", spec := "fnExactExpand", apart := false }
def FnExactExpandSaid : Prop := fnExactExpandRow.holds Try.pinned (OpenSpec.ofChange fnExactExpandSpec)

/-- ITS FALSE NEIGHBOUR: 'it returns false'. Refute it at one input. -/
def fnExactExpandWrong : ChangeSpec := { name := "fnExactExpand", fn := fun _ => fun
  | [d1, d2, d3, d4, d5, d6, d7, d8] => { results := [.lit (.bool false)], args := [d1, d2, d3, d4, d5, d6, d7, d8] }
  | _ => none }
def FnExactExpandWrongFalsely : Prop := fnExactExpandRow.holds Try.pinned (OpenSpec.ofChange fnExactExpandWrong)

/-- 'laws.FnExactArea': WHATEVER THE INPUT: true; the input reads as it did. -/
def fnExactAreaSpec : ChangeSpec := { name := "fnExactArea", fn := fun _ => fun
  | [d1, d2, d3, d4, d5, d6, d7, d8] => { results := [.lit (.bool true)], args := [d1, d2, d3, d4, d5, d6, d7, d8] }
  | _ => none }
def fnExactAreaRow : OpenClaim := { program := "ytenokcfpmfoekaa", sum := "af9319673cf6e33ff00708522098c5d35e795834eb3d005e296c2b4cd3061dd7", func := "loop.example/pub-boxtrees/laws.FnExactArea", spec := "fnExactArea", apart := false }
def FnExactAreaSaid : Prop := fnExactAreaRow.holds Try.pinned (OpenSpec.ofChange fnExactAreaSpec)

/-- ITS FALSE NEIGHBOUR: 'it returns false'. Refute it at one input. -/
def fnExactAreaWrong : ChangeSpec := { name := "fnExactArea", fn := fun _ => fun
  | [d1, d2, d3, d4, d5, d6, d7, d8] => { results := [.lit (.bool false)], args := [d1, d2, d3, d4, d5, d6, d7, d8] }
  | _ => none }
def FnExactAreaWrongFalsely : Prop := fnExactAreaRow.holds Try.pinned (OpenSpec.ofChange fnExactAreaWrong)

/-- 'laws.FnExactDist': WHATEVER THE INPUT: true; the input reads as it did. -/
def fnExactDistSpec : ChangeSpec := { name := "fnExactDist", fn := fun _ => fun
  | [d1, d2, d3, d4, d5, d6, d7, d8] => { results := [.lit (.bool true)], args := [d1, d2, d3, d4, d5, d6, d7, d8] }
  | _ => none }
def fnExactDistRow : OpenClaim := { program := "ytenokcfpmfoekaa", sum := "af9319673cf6e33ff00708522098c5d35e795834eb3d005e296c2b4cd3061dd7", func := "loop.example/pub-boxtrees/laws.FnExactDist", spec := "fnExactDist", apart := false }
def FnExactDistSaid : Prop := fnExactDistRow.holds Try.pinned (OpenSpec.ofChange fnExactDistSpec)

/-- ITS FALSE NEIGHBOUR: 'it returns false'. Refute it at one input. -/
def fnExactDistWrong : ChangeSpec := { name := "fnExactDist", fn := fun _ => fun
  | [d1, d2, d3, d4, d5, d6, d7, d8] => { results := [.lit (.bool false)], args := [d1, d2, d3, d4, d5, d6, d7, d8] }
  | _ => none }
def FnExactDistWrongFalsely : Prop := fnExactDistRow.holds Try.pinned (OpenSpec.ofChange fnExactDistWrong)

/-- 'laws.FnExactCompare': WHATEVER THE INPUT: true; the input reads as it did. -/
def fnExactCompareSpec : ChangeSpec := { name := "fnExactCompare", fn := fun _ => fun
  | [d1, d2, d3, d4, d5, d6, d7, d8] => { results := [.lit (.bool true)], args := [d1, d2, d3, d4, d5, d6, d7, d8] }
  | _ => none }
def fnExactCompareRow : OpenClaim := { program := "ytenokcfpmfoekaa", sum := "af9319673cf6e33ff00708522098c5d35e795834eb3d005e296c2b4cd3061dd7", func := "loop.example/pub-boxtrees/laws.FnExactCompare", spec := "fnExactCompare", apart := false }
def FnExactCompareSaid : Prop := fnExactCompareRow.holds Try.pinned (OpenSpec.ofChange fnExactCompareSpec)

/-- ITS FALSE NEIGHBOUR: 'it returns false'. Refute it at one input. -/
def fnExactCompareWrong : ChangeSpec := { name := "fnExactCompare", fn := fun _ => fun
  | [d1, d2, d3, d4, d5, d6, d7, d8] => { results := [.lit (.bool false)], args := [d1, d2, d3, d4, d5, d6, d7, d8] }
  | _ => none }
def FnExactCompareWrongFalsely : Prop := fnExactCompareRow.holds Try.pinned (OpenSpec.ofChange fnExactCompareWrong)

/-- 'laws.FnExactAround': WHATEVER THE INPUT: true; the input reads as it did. -/
def fnExactAroundSpec : ChangeSpec := { name := "fnExactAround", fn := fun _ => fun
  | [d] => { results := [.lit (.bool true)], args := [d] }
  | _ => none }
def fnExactAroundRow : OpenClaim := { program := "ytenokcfpmfoekaa", sum := "af9319673cf6e33ff00708522098c5d35e795834eb3d005e296c2b4cd3061dd7", func := "loop.example/pub-boxtrees/laws.FnExactAround", spec := "fnExactAround", apart := false }
def FnExactAroundSaid : Prop := fnExactAroundRow.holds Try.pinned (OpenSpec.ofChange fnExactAroundSpec)

/-- ITS FALSE NEIGHBOUR: 'it returns false'. Refute it at one input. -/
def fnExactAroundWrong : ChangeSpec := { name := "fnExactAround", fn := fun _ => fun
  | [d] => { results := [.lit (.bool false)], args := [d] }
  | _ => none }
def FnExactAroundWrongFalsely : Prop := fnExactAroundRow.holds Try.pinned (OpenSpec.ofChange fnExactAroundWrong)

/-- 'laws.FnChooseLeast': WHATEVER THE INPUT: true; the input reads as it did. -/
def fnChooseLeastSpec : ChangeSpec := { name := "fnChooseLeast", fn := fun _ => fun
  | [d1, d2, d3, d4, d5] => { results := [.lit (.bool true)], args := [d1, d2, d3, d4, d5] }
  | _ => none }
def fnChooseLeastRow : OpenClaim := { program := "ytenokcfpmfoekaa", sum := "af9319673cf6e33ff00708522098c5d35e795834eb3d005e296c2b4cd3061dd7", func := "loop.example/pub-boxtrees/laws.FnChooseLeast", spec := "fnChooseLeast", apart := false }
def FnChooseLeastSaid : Prop := fnChooseLeastRow.holds Try.pinned (OpenSpec.ofChange fnChooseLeastSpec)

/-- ITS FALSE NEIGHBOUR: 'it returns false'. Refute it at one input. -/
def fnChooseLeastWrong : ChangeSpec := { name := "fnChooseLeast", fn := fun _ => fun
  | [d1, d2, d3, d4, d5] => { results := [.lit (.bool false)], args := [d1, d2, d3, d4, d5] }
  | _ => none }
def FnChooseLeastWrongFalsely : Prop := fnChooseLeastRow.holds Try.pinned (OpenSpec.ofChange fnChooseLeastWrong)

/-- 'laws.FnSortOrder': WHATEVER THE INPUT: true; the input reads as it did. -/
def fnSortOrderSpec : ChangeSpec := { name := "fnSortOrder", fn := fun _ => fun
  | [d1, d2, d3, d4] => { results := [.lit (.bool true)], args := [d1, d2, d3, d4] }
  | _ => none }
def fnSortOrderRow : OpenClaim := { program := "ytenokcfpmfoekaa", sum := "af9319673cf6e33ff00708522098c5d35e795834eb3d005e296c2b4cd3061dd7", func := "loop.example/pub-boxtrees/laws.FnSortOrder", spec := "fnSortOrder", recurses := true, apart := false }
def FnSortOrderSaid : Prop := fnSortOrderRow.holds Try.pinned (OpenSpec.ofChange fnSortOrderSpec)

/-- ITS FALSE NEIGHBOUR: 'it returns false'. Refute it at one input. -/
def fnSortOrderWrong : ChangeSpec := { name := "fnSortOrder", fn := fun _ => fun
  | [d1, d2, d3, d4] => { results := [.lit (.bool false)], args := [d1, d2, d3, d4] }
  | _ => none }
def FnSortOrderWrongFalsely : Prop := fnSortOrderRow.holds Try.pinned (OpenSpec.ofChange fnSortOrderWrong)

/-- 'laws.FnSplitOnce': WHATEVER THE INPUT: true; the input reads as it did. -/
def fnSplitOnceSpec : ChangeSpec := { name := "fnSplitOnce", fn := fun _ => fun
  | [d] => { results := [.lit (.bool true)], args := [d] }
  | _ => none }
def fnSplitOnceRow : OpenClaim := { program := "ytenokcfpmfoekaa", sum := "af9319673cf6e33ff00708522098c5d35e795834eb3d005e296c2b4cd3061dd7", func := "loop.example/pub-boxtrees/laws.FnSplitOnce", spec := "fnSplitOnce", recurses := true, apart := false }
def FnSplitOnceSaid : Prop := fnSplitOnceRow.holds Try.pinned (OpenSpec.ofChange fnSplitOnceSpec)

/-- ITS FALSE NEIGHBOUR: 'it returns false'. Refute it at one input. -/
def fnSplitOnceWrong : ChangeSpec := { name := "fnSplitOnce", fn := fun _ => fun
  | [d] => { results := [.lit (.bool false)], args := [d] }
  | _ => none }
def FnSplitOnceWrongFalsely : Prop := fnSplitOnceRow.holds Try.pinned (OpenSpec.ofChange fnSplitOnceWrong)

/- THE SECOND FORM. 'bulk': how many values and letters a reading holds, each counted each time it is reached (what is shared counts as often as it is met; a slice's spare places count too). A statement '..UptoSaid' is the law's where the arguments, and the package variables that the reading takes, are together of bulk at most 1048576: NARROWER than '..Said'. Prove '..Said' where nothing that the law and all that it calls make is longer than what came in: it says more and counts as full. Else prove '..UptoSaid'. A law counts once. -/
mutual
def uptoBulk {H : Type} : DataW H → Nat
  | .lit (.string bytes) => bytes.length + 1
  | .lit _ => 1
  | .nil => 1
  | .ptr d => uptoBulk d + 1
  | .slice elems spare => uptoBulkAll elems + uptoBulkAll spare + 1
  | .agg parts => uptoBulkAll parts + 1
  | .iface _ d => uptoBulk d + 1
  | .map entries => uptoBulkEntries entries + 1
  | .held _ => 1
def uptoBulkAll {H : Type} : List (DataW H) → Nat
  | [] => 0
  | d :: r => uptoBulk d + uptoBulkAll r
def uptoBulkEntries {H : Type} : List (Lit × DataW H) → Nat
  | [] => 0
  | x :: r => uptoBulkEntry x + uptoBulkEntries r
def uptoBulkEntry {H : Type} : Lit × DataW H → Nat
  | (.string bytes, d) => bytes.length + uptoBulk d + 1
  | (_, d) => uptoBulk d + 1
 end
def uptoSmall : (H : Type) → List (DataW H) → Bool := fun _ ds => decide (uptoBulkAll ds ≤ 1048576)
def OpenSpec.upto (s : _root_.Go.ChangeSpec) : _root_.Go.OpenSpec := { _root_.Go.OpenSpec.ofChange s with cond := some uptoSmall }

/-- 'laws.FnExactOnedge', WHERE WHAT IT READS IS OF BULK AT MOST 1048576: true; the input reads as it did. -/
def fnExactOnedgeUptoRow : OpenClaim := { program := "ytenokcfpmfoekaa", sum := "af9319673cf6e33ff00708522098c5d35e795834eb3d005e296c2b4cd3061dd7", func := "loop.example/pub-boxtrees/laws.FnExactOnedge", spec := "fnExactOnedge", apart := false, narrowed := true }
def FnExactOnedgeUptoSaid : Prop := fnExactOnedgeUptoRow.holds Try.pinned (OpenSpec.upto fnExactOnedgeSpec)

/-- 'laws.FnExactAxis', WHERE WHAT IT READS IS OF BULK AT MOST 1048576: true; the input reads as it did. -/
def fnExactAxisUptoRow : OpenClaim := { program := "ytenokcfpmfoekaa", sum := "af9319673cf6e33ff00708522098c5d35e795834eb3d005e296c2b4cd3061dd7", func := "loop.example/pub-boxtrees/laws.FnExactAxis", spec := "fnExactAxis", apart := false, narrowed := true }
def FnExactAxisUptoSaid : Prop := fnExactAxisUptoRow.holds Try.pinned (OpenSpec.upto fnExactAxisSpec)

/-- 'laws.FnExactExpand', WHERE WHAT IT READS IS OF BULK AT MOST 1048576: true; the input reads as it did. -/
def fnExactExpandUptoRow : OpenClaim := { program := "ytenokcfpmfoekaa", sum := "af9319673cf6e33ff00708522098c5d35e795834eb3d005e296c2b4cd3061dd7", func := "loop.example/pub-boxtrees/laws.FnExactExpand", spec := "fnExactExpand", apart := false, narrowed := true }
def FnExactExpandUptoSaid : Prop := fnExactExpandUptoRow.holds Try.pinned (OpenSpec.upto fnExactExpandSpec)

/-- 'laws.FnExactArea', WHERE WHAT IT READS IS OF BULK AT MOST 1048576: true; the input reads as it did. -/
def fnExactAreaUptoRow : OpenClaim := { program := "ytenokcfpmfoekaa", sum := "af9319673cf6e33ff00708522098c5d35e795834eb3d005e296c2b4cd3061dd7", func := "loop.example/pub-boxtrees/laws.FnExactArea", spec := "fnExactArea", apart := false, narrowed := true }
def FnExactAreaUptoSaid : Prop := fnExactAreaUptoRow.holds Try.pinned (OpenSpec.upto fnExactAreaSpec)

/-- 'laws.FnExactDist', WHERE WHAT IT READS IS OF BULK AT MOST 1048576: true; the input reads as it did. -/
def fnExactDistUptoRow : OpenClaim := { program := "ytenokcfpmfoekaa", sum := "af9319673cf6e33ff00708522098c5d35e795834eb3d005e296c2b4cd3061dd7", func := "loop.example/pub-boxtrees/laws.FnExactDist", spec := "fnExactDist", apart := false, narrowed := true }
def FnExactDistUptoSaid : Prop := fnExactDistUptoRow.holds Try.pinned (OpenSpec.upto fnExactDistSpec)

/-- 'laws.FnExactCompare', WHERE WHAT IT READS IS OF BULK AT MOST 1048576: true; the input reads as it did. -/
def fnExactCompareUptoRow : OpenClaim := { program := "ytenokcfpmfoekaa", sum := "af9319673cf6e33ff00708522098c5d35e795834eb3d005e296c2b4cd3061dd7", func := "loop.example/pub-boxtrees/laws.FnExactCompare", spec := "fnExactCompare", apart := false, narrowed := true }
def FnExactCompareUptoSaid : Prop := fnExactCompareUptoRow.holds Try.pinned (OpenSpec.upto fnExactCompareSpec)

/-- 'laws.FnExactAround', WHERE WHAT IT READS IS OF BULK AT MOST 1048576: true; the input reads as it did. -/
def fnExactAroundUptoRow : OpenClaim := { program := "ytenokcfpmfoekaa", sum := "af9319673cf6e33ff00708522098c5d35e795834eb3d005e296c2b4cd3061dd7", func := "loop.example/pub-boxtrees/laws.FnExactAround", spec := "fnExactAround", apart := false, narrowed := true }
def FnExactAroundUptoSaid : Prop := fnExactAroundUptoRow.holds Try.pinned (OpenSpec.upto fnExactAroundSpec)

/-- 'laws.FnChooseLeast', WHERE WHAT IT READS IS OF BULK AT MOST 1048576: true; the input reads as it did. -/
def fnChooseLeastUptoRow : OpenClaim := { program := "ytenokcfpmfoekaa", sum := "af9319673cf6e33ff00708522098c5d35e795834eb3d005e296c2b4cd3061dd7", func := "loop.example/pub-boxtrees/laws.FnChooseLeast", spec := "fnChooseLeast", apart := false, narrowed := true }
def FnChooseLeastUptoSaid : Prop := fnChooseLeastUptoRow.holds Try.pinned (OpenSpec.upto fnChooseLeastSpec)

/-- 'laws.FnSortOrder', WHERE WHAT IT READS IS OF BULK AT MOST 1048576: true; the input reads as it did. -/
def fnSortOrderUptoRow : OpenClaim := { program := "ytenokcfpmfoekaa", sum := "af9319673cf6e33ff00708522098c5d35e795834eb3d005e296c2b4cd3061dd7", func := "loop.example/pub-boxtrees/laws.FnSortOrder", spec := "fnSortOrder", recurses := true, apart := false, narrowed := true }
def FnSortOrderUptoSaid : Prop := fnSortOrderUptoRow.holds Try.pinned (OpenSpec.upto fnSortOrderSpec)

/-- 'laws.FnSplitOnce', WHERE WHAT IT READS IS OF BULK AT MOST 1048576: true; the input reads as it did. -/
def fnSplitOnceUptoRow : OpenClaim := { program := "ytenokcfpmfoekaa", sum := "af9319673cf6e33ff00708522098c5d35e795834eb3d005e296c2b4cd3061dd7", func := "loop.example/pub-boxtrees/laws.FnSplitOnce", spec := "fnSplitOnce", recurses := true, apart := false, narrowed := true }
def FnSplitOnceUptoSaid : Prop := fnSplitOnceUptoRow.holds Try.pinned (OpenSpec.upto fnSplitOnceSpec)

end Rows
end Go.Proofs.Ytenokcfpmfoekaa
