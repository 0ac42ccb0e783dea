/-
  No cell of these rows narrows 'for every input' (looked for: loops, veiled, ifaces, maps, wideKeys, modest, calm, conditions, laid).
  DERIVED. THE GIVEN ROWS OF THIS SEAT. 9 by the template 'for every input the law returns true; each argument reads behind the call as it read before'; 0 by the template 'total and deterministic' (their statements: YtgpmnpimdbejnaaTotals.lean).
  GIVEN WITH THE SEED: the statements are not yours to turn. If you find one false, say at which input.
  Laid BY PROGRAM, IN A SANDBOX (cutbox-rows.mjs): the forced cells as the released guide's own fill.sh prints them over the translation 7c7224c2dbf35392… (all of the seat's roots in one cut). By AI agents, Wed Nov 11 2026. No macro, syntax, notation, axiom, sorry.
-/
import Derived.Test.YtgpmnpimdbejnaaChecked
import GoSem.Claim
import GoSem.ClaimJoined
import GoSem.ClaimMapViews
import Derived.JoinedTies
import Derived.KernelRfl
namespace Go.Proofs.Ytgpmnpimdbejnaa
/- THE CELL 'sum', in the pinned program and in every row, IS THE sha256 OF THE DUMP (.gsa) THAT YtgpmnpimdbejnaaProg.lean LOADS. Nothing in Lean hashes anything: it is a label: what it is worth is what the hold of that sum in a sandbox is worth. -/
noncomputable def Try.pinned : Pinned := { name := "ytgpmnpimdbejnaa", sum := "7c7224c2dbf353925c4dc7a96c4eae8f108bb3f3f7ea339b521f8b6dcabdfd24", checked := Try.checked }
namespace Rows
def none {H : Type} : Left H := { results := [], args := [] }

/-- 'laws.FnWalk': WHATEVER THE INPUT: true; the input reads as it did. -/
def fnWalkSpec : ChangeSpec := { name := "fnWalk", fn := fun _ => fun
  | [d1, d2] => { results := [.lit (.bool true)], args := [d1, d2] }
  | _ => none }
def fnWalkRow : OpenClaim := { program := "ytgpmnpimdbejnaa", sum := "7c7224c2dbf353925c4dc7a96c4eae8f108bb3f3f7ea339b521f8b6dcabdfd24", func := "loop.example/pub-g01458/laws.FnWalk", spec := "fnWalk", apart := false }
def FnWalkSaid : Prop := fnWalkRow.holds Try.pinned (OpenSpec.ofChange fnWalkSpec)

/-- ITS FALSE NEIGHBOUR: 'it returns false'. Refute it at one input. -/
def fnWalkWrong : ChangeSpec := { name := "fnWalk", fn := fun _ => fun
  | [d1, d2] => { results := [.lit (.bool false)], args := [d1, d2] }
  | _ => none }
def FnWalkWrongFalsely : Prop := fnWalkRow.holds Try.pinned (OpenSpec.ofChange fnWalkWrong)

/-- 'laws.FnWalkPart': WHATEVER THE INPUT: true; the input reads as it did. -/
def fnWalkPartSpec : ChangeSpec := { name := "fnWalkPart", fn := fun _ => fun
  | [d1, d2, d3] => { results := [.lit (.bool true)], args := [d1, d2, d3] }
  | _ => none }
def fnWalkPartRow : OpenClaim := { program := "ytgpmnpimdbejnaa", sum := "7c7224c2dbf353925c4dc7a96c4eae8f108bb3f3f7ea339b521f8b6dcabdfd24", func := "loop.example/pub-g01458/laws.FnWalkPart", spec := "fnWalkPart", apart := false }
def FnWalkPartSaid : Prop := fnWalkPartRow.holds Try.pinned (OpenSpec.ofChange fnWalkPartSpec)

/-- ITS FALSE NEIGHBOUR: 'it returns false'. Refute it at one input. -/
def fnWalkPartWrong : ChangeSpec := { name := "fnWalkPart", fn := fun _ => fun
  | [d1, d2, d3] => { results := [.lit (.bool false)], args := [d1, d2, d3] }
  | _ => none }
def FnWalkPartWrongFalsely : Prop := fnWalkPartRow.holds Try.pinned (OpenSpec.ofChange fnWalkPartWrong)

/-- 'laws.FnWalkZero': WHATEVER THE INPUT: true; the input reads as it did. -/
def fnWalkZeroSpec : ChangeSpec := { name := "fnWalkZero", fn := fun _ => fun
  | [d1, d2, d3] => { results := [.lit (.bool true)], args := [d1, d2, d3] }
  | _ => none }
def fnWalkZeroRow : OpenClaim := { program := "ytgpmnpimdbejnaa", sum := "7c7224c2dbf353925c4dc7a96c4eae8f108bb3f3f7ea339b521f8b6dcabdfd24", func := "loop.example/pub-g01458/laws.FnWalkZero", spec := "fnWalkZero", apart := false }
def FnWalkZeroSaid : Prop := fnWalkZeroRow.holds Try.pinned (OpenSpec.ofChange fnWalkZeroSpec)

/-- ITS FALSE NEIGHBOUR: 'it returns false'. Refute it at one input. -/
def fnWalkZeroWrong : ChangeSpec := { name := "fnWalkZero", fn := fun _ => fun
  | [d1, d2, d3] => { results := [.lit (.bool false)], args := [d1, d2, d3] }
  | _ => none }
def FnWalkZeroWrongFalsely : Prop := fnWalkZeroRow.holds Try.pinned (OpenSpec.ofChange fnWalkZeroWrong)

/-- 'laws.FnRead': WHATEVER THE INPUT: true; the input reads as it did. -/
def fnReadSpec : ChangeSpec := { name := "fnRead", fn := fun _ => fun
  | [d1, d2] => { results := [.lit (.bool true)], args := [d1, d2] }
  | _ => none }
def fnReadRow : OpenClaim := { program := "ytgpmnpimdbejnaa", sum := "7c7224c2dbf353925c4dc7a96c4eae8f108bb3f3f7ea339b521f8b6dcabdfd24", func := "loop.example/pub-g01458/laws.FnRead", spec := "fnRead", apart := false }
def FnReadSaid : Prop := fnReadRow.holds Try.pinned (OpenSpec.ofChange fnReadSpec)

/-- ITS FALSE NEIGHBOUR: 'it returns false'. Refute it at one input. -/
def fnReadWrong : ChangeSpec := { name := "fnRead", fn := fun _ => fun
  | [d1, d2] => { results := [.lit (.bool false)], args := [d1, d2] }
  | _ => none }
def FnReadWrongFalsely : Prop := fnReadRow.holds Try.pinned (OpenSpec.ofChange fnReadWrong)

/-- 'laws.FnReadBehind': WHATEVER THE INPUT: true; the input reads as it did. -/
def fnReadBehindSpec : ChangeSpec := { name := "fnReadBehind", fn := fun _ => fun
  | [d1, d2, d3] => { results := [.lit (.bool true)], args := [d1, d2, d3] }
  | _ => none }
def fnReadBehindRow : OpenClaim := { program := "ytgpmnpimdbejnaa", sum := "7c7224c2dbf353925c4dc7a96c4eae8f108bb3f3f7ea339b521f8b6dcabdfd24", func := "loop.example/pub-g01458/laws.FnReadBehind", spec := "fnReadBehind", apart := false }
def FnReadBehindSaid : Prop := fnReadBehindRow.holds Try.pinned (OpenSpec.ofChange fnReadBehindSpec)

/-- ITS FALSE NEIGHBOUR: 'it returns false'. Refute it at one input. -/
def fnReadBehindWrong : ChangeSpec := { name := "fnReadBehind", fn := fun _ => fun
  | [d1, d2, d3] => { results := [.lit (.bool false)], args := [d1, d2, d3] }
  | _ => none }
def FnReadBehindWrongFalsely : Prop := fnReadBehindRow.holds Try.pinned (OpenSpec.ofChange fnReadBehindWrong)

/-- 'laws.FnReadJoined': WHATEVER THE INPUT: true; the input reads as it did. -/
def fnReadJoinedSpec : ChangeSpec := { name := "fnReadJoined", fn := fun _ => fun
  | [d] => { results := [.lit (.bool true)], args := [d] }
  | _ => none }
def fnReadJoinedRow : OpenClaim := { program := "ytgpmnpimdbejnaa", sum := "7c7224c2dbf353925c4dc7a96c4eae8f108bb3f3f7ea339b521f8b6dcabdfd24", func := "loop.example/pub-g01458/laws.FnReadJoined", spec := "fnReadJoined", apart := false }
def FnReadJoinedSaid : Prop := fnReadJoinedRow.holds Try.pinned (OpenSpec.ofChange fnReadJoinedSpec)

/-- ITS FALSE NEIGHBOUR: 'it returns false'. Refute it at one input. -/
def fnReadJoinedWrong : ChangeSpec := { name := "fnReadJoined", fn := fun _ => fun
  | [d] => { results := [.lit (.bool false)], args := [d] }
  | _ => none }
def FnReadJoinedWrongFalsely : Prop := fnReadJoinedRow.holds Try.pinned (OpenSpec.ofChange fnReadJoinedWrong)

/-- 'laws.FnReadOne': WHATEVER THE INPUT: true; the input reads as it did. -/
def fnReadOneSpec : ChangeSpec := { name := "fnReadOne", fn := fun _ => fun
  | [d1, d2] => { results := [.lit (.bool true)], args := [d1, d2] }
  | _ => none }
def fnReadOneRow : OpenClaim := { program := "ytgpmnpimdbejnaa", sum := "7c7224c2dbf353925c4dc7a96c4eae8f108bb3f3f7ea339b521f8b6dcabdfd24", func := "loop.example/pub-g01458/laws.FnReadOne", spec := "fnReadOne", apart := false }
def FnReadOneSaid : Prop := fnReadOneRow.holds Try.pinned (OpenSpec.ofChange fnReadOneSpec)

/-- ITS FALSE NEIGHBOUR: 'it returns false'. Refute it at one input. -/
def fnReadOneWrong : ChangeSpec := { name := "fnReadOne", fn := fun _ => fun
  | [d1, d2] => { results := [.lit (.bool false)], args := [d1, d2] }
  | _ => none }
def FnReadOneWrongFalsely : Prop := fnReadOneRow.holds Try.pinned (OpenSpec.ofChange fnReadOneWrong)

/-- 'laws.FnReadScaled': WHATEVER THE INPUT: true; the input reads as it did. -/
def fnReadScaledSpec : ChangeSpec := { name := "fnReadScaled", fn := fun _ => fun
  | [d1, d2] => { results := [.lit (.bool true)], args := [d1, d2] }
  | _ => none }
def fnReadScaledRow : OpenClaim := { program := "ytgpmnpimdbejnaa", sum := "7c7224c2dbf353925c4dc7a96c4eae8f108bb3f3f7ea339b521f8b6dcabdfd24", func := "loop.example/pub-g01458/laws.FnReadScaled", spec := "fnReadScaled", apart := false }
def FnReadScaledSaid : Prop := fnReadScaledRow.holds Try.pinned (OpenSpec.ofChange fnReadScaledSpec)

/-- ITS FALSE NEIGHBOUR: 'it returns false'. Refute it at one input. -/
def fnReadScaledWrong : ChangeSpec := { name := "fnReadScaled", fn := fun _ => fun
  | [d1, d2] => { results := [.lit (.bool false)], args := [d1, d2] }
  | _ => none }
def FnReadScaledWrongFalsely : Prop := fnReadScaledRow.holds Try.pinned (OpenSpec.ofChange fnReadScaledWrong)

/-- 'laws.FnReaders': WHATEVER THE INPUT: true; the input reads as it did. -/
def fnReadersSpec : ChangeSpec := { name := "fnReaders", fn := fun _ => fun
  | [d1, d2] => { results := [.lit (.bool true)], args := [d1, d2] }
  | _ => none }
def fnReadersRow : OpenClaim := { program := "ytgpmnpimdbejnaa", sum := "7c7224c2dbf353925c4dc7a96c4eae8f108bb3f3f7ea339b521f8b6dcabdfd24", func := "loop.example/pub-g01458/laws.FnReaders", spec := "fnReaders", apart := false }
def FnReadersSaid : Prop := fnReadersRow.holds Try.pinned (OpenSpec.ofChange fnReadersSpec)

/-- ITS FALSE NEIGHBOUR: 'it returns false'. Refute it at one input. -/
def fnReadersWrong : ChangeSpec := { name := "fnReaders", fn := fun _ => fun
  | [d1, d2] => { results := [.lit (.bool false)], args := [d1, d2] }
  | _ => none }
def FnReadersWrongFalsely : Prop := fnReadersRow.holds Try.pinned (OpenSpec.ofChange fnReadersWrong)

/- THE SECOND FORM. 'bulk': how many values and letters a reading holds, each counted each time it is reached (what is shared counts as often as it is met; a slice's spare places count too). A statement '..UptoSaid' is the law's where the arguments, and the package variables that the reading takes, are together of bulk at most 1048576: NARROWER than '..Said'. Prove '..Said' where nothing that the law and all that it calls make is longer than what came in: it says more and counts as full. Else prove '..UptoSaid'. A law counts once. -/
mutual
def uptoBulk {H : Type} : DataW H → Nat
  | .lit (.string bytes) => bytes.length + 1
  | .lit _ => 1
  | .nil => 1
  | .ptr d => uptoBulk d + 1
  | .slice elems spare => uptoBulkAll elems + uptoBulkAll spare + 1
  | .agg parts => uptoBulkAll parts + 1
  | .iface _ d => uptoBulk d + 1
  | .map entries => uptoBulkEntries entries + 1
  | .held _ => 1
def uptoBulkAll {H : Type} : List (DataW H) → Nat
  | [] => 0
  | d :: r => uptoBulk d + uptoBulkAll r
def uptoBulkEntries {H : Type} : List (Lit × DataW H) → Nat
  | [] => 0
  | x :: r => uptoBulkEntry x + uptoBulkEntries r
def uptoBulkEntry {H : Type} : Lit × DataW H → Nat
  | (.string bytes, d) => bytes.length + uptoBulk d + 1
  | (_, d) => uptoBulk d + 1
 end
def uptoSmall : (H : Type) → List (DataW H) → Bool := fun _ ds => decide (uptoBulkAll ds ≤ 1048576)
def OpenSpec.upto (s : _root_.Go.ChangeSpec) : _root_.Go.OpenSpec := { _root_.Go.OpenSpec.ofChange s with cond := some uptoSmall }

/-- 'laws.FnWalk', WHERE WHAT IT READS IS OF BULK AT MOST 1048576: true; the input reads as it did. -/
def fnWalkUptoRow : OpenClaim := { program := "ytgpmnpimdbejnaa", sum := "7c7224c2dbf353925c4dc7a96c4eae8f108bb3f3f7ea339b521f8b6dcabdfd24", func := "loop.example/pub-g01458/laws.FnWalk", spec := "fnWalk", apart := false, narrowed := true }
def FnWalkUptoSaid : Prop := fnWalkUptoRow.holds Try.pinned (OpenSpec.upto fnWalkSpec)

/-- 'laws.FnWalkPart', WHERE WHAT IT READS IS OF BULK AT MOST 1048576: true; the input reads as it did. -/
def fnWalkPartUptoRow : OpenClaim := { program := "ytgpmnpimdbejnaa", sum := "7c7224c2dbf353925c4dc7a96c4eae8f108bb3f3f7ea339b521f8b6dcabdfd24", func := "loop.example/pub-g01458/laws.FnWalkPart", spec := "fnWalkPart", apart := false, narrowed := true }
def FnWalkPartUptoSaid : Prop := fnWalkPartUptoRow.holds Try.pinned (OpenSpec.upto fnWalkPartSpec)

/-- 'laws.FnWalkZero', WHERE WHAT IT READS IS OF BULK AT MOST 1048576: true; the input reads as it did. -/
def fnWalkZeroUptoRow : OpenClaim := { program := "ytgpmnpimdbejnaa", sum := "7c7224c2dbf353925c4dc7a96c4eae8f108bb3f3f7ea339b521f8b6dcabdfd24", func := "loop.example/pub-g01458/laws.FnWalkZero", spec := "fnWalkZero", apart := false, narrowed := true }
def FnWalkZeroUptoSaid : Prop := fnWalkZeroUptoRow.holds Try.pinned (OpenSpec.upto fnWalkZeroSpec)

/-- 'laws.FnRead', WHERE WHAT IT READS IS OF BULK AT MOST 1048576: true; the input reads as it did. -/
def fnReadUptoRow : OpenClaim := { program := "ytgpmnpimdbejnaa", sum := "7c7224c2dbf353925c4dc7a96c4eae8f108bb3f3f7ea339b521f8b6dcabdfd24", func := "loop.example/pub-g01458/laws.FnRead", spec := "fnRead", apart := false, narrowed := true }
def FnReadUptoSaid : Prop := fnReadUptoRow.holds Try.pinned (OpenSpec.upto fnReadSpec)

/-- 'laws.FnReadBehind', WHERE WHAT IT READS IS OF BULK AT MOST 1048576: true; the input reads as it did. -/
def fnReadBehindUptoRow : OpenClaim := { program := "ytgpmnpimdbejnaa", sum := "7c7224c2dbf353925c4dc7a96c4eae8f108bb3f3f7ea339b521f8b6dcabdfd24", func := "loop.example/pub-g01458/laws.FnReadBehind", spec := "fnReadBehind", apart := false, narrowed := true }
def FnReadBehindUptoSaid : Prop := fnReadBehindUptoRow.holds Try.pinned (OpenSpec.upto fnReadBehindSpec)

/-- 'laws.FnReadJoined', WHERE WHAT IT READS IS OF BULK AT MOST 1048576: true; the input reads as it did. -/
def fnReadJoinedUptoRow : OpenClaim := { program := "ytgpmnpimdbejnaa", sum := "7c7224c2dbf353925c4dc7a96c4eae8f108bb3f3f7ea339b521f8b6dcabdfd24", func := "loop.example/pub-g01458/laws.FnReadJoined", spec := "fnReadJoined", apart := false, narrowed := true }
def FnReadJoinedUptoSaid : Prop := fnReadJoinedUptoRow.holds Try.pinned (OpenSpec.upto fnReadJoinedSpec)

/-- 'laws.FnReadOne', WHERE WHAT IT READS IS OF BULK AT MOST 1048576: true; the input reads as it did. -/
def fnReadOneUptoRow : OpenClaim := { program := "ytgpmnpimdbejnaa", sum := "7c7224c2dbf353925c4dc7a96c4eae8f108bb3f3f7ea339b521f8b6dcabdfd24", func := "loop.example/pub-g01458/laws.FnReadOne", spec := "fnReadOne", apart := false, narrowed := true }
def FnReadOneUptoSaid : Prop := fnReadOneUptoRow.holds Try.pinned (OpenSpec.upto fnReadOneSpec)

/-- 'laws.FnReadScaled', WHERE WHAT IT READS IS OF BULK AT MOST 1048576: true; the input reads as it did. -/
def fnReadScaledUptoRow : OpenClaim := { program := "ytgpmnpimdbejnaa", sum := "7c7224c2dbf353925c4dc7a96c4eae8f108bb3f3f7ea339b521f8b6dcabdfd24", func := "loop.example/pub-g01458/laws.FnReadScaled", spec := "fnReadScaled", apart := false, narrowed := true }
def FnReadScaledUptoSaid : Prop := fnReadScaledUptoRow.holds Try.pinned (OpenSpec.upto fnReadScaledSpec)

/-- 'laws.FnReaders', WHERE WHAT IT READS IS OF BULK AT MOST 1048576: true; the input reads as it did. -/
def fnReadersUptoRow : OpenClaim := { program := "ytgpmnpimdbejnaa", sum := "7c7224c2dbf353925c4dc7a96c4eae8f108bb3f3f7ea339b521f8b6dcabdfd24", func := "loop.example/pub-g01458/laws.FnReaders", spec := "fnReaders", apart := false, narrowed := true }
def FnReadersUptoSaid : Prop := fnReadersUptoRow.holds Try.pinned (OpenSpec.upto fnReadersSpec)

end Rows
end Go.Proofs.Ytgpmnpimdbejnaa
