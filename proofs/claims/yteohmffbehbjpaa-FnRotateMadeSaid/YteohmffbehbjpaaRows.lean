/-
  No cell of these rows narrows 'for every input' (looked for: loops, veiled, ifaces, maps, wideKeys, modest, calm, conditions, laid).
  DERIVED. THE GIVEN ROWS OF THIS SEAT. 5 by the template 'for every input the law returns true; each argument reads behind the call as it read before'; 0 by the template 'total and deterministic' (their statements: YteohmffbehbjpaaTotals.lean).
  GIVEN WITH THE SEED: the statements are not yours to turn. If you find one false, say at which input.
  Laid BY PROGRAM, IN A SANDBOX (cutbox-rows.mjs): the forced cells as the released guide's own fill.sh prints them over the translation fc3ed0e02b82571f… (all of the seat's roots in one cut). By AI agents, Wed Nov 11 2026. No macro, syntax, notation, axiom, sorry.
-/
import Derived.Test.YteohmffbehbjpaaChecked
import GoSem.Claim
import GoSem.ClaimJoined
import GoSem.ClaimMapViews
import Derived.JoinedTies
import Derived.KernelRfl
namespace Go.Proofs.Yteohmffbehbjpaa
/- THE CELL 'sum', in the pinned program and in every row, IS THE sha256 OF THE DUMP (.gsa) THAT YteohmffbehbjpaaProg.lean LOADS. Nothing in Lean hashes anything: it is a label: what it is worth is what the hold of that sum in a sandbox is worth. -/
noncomputable def Try.pinned : Pinned := { name := "yteohmffbehbjpaa", sum := "fc3ed0e02b82571fe6b198b5a0e7ce4cd1d1e6e61b9ba033edaf3ec4004579db", checked := Try.checked }
namespace Rows
def none {H : Type} : Left H := { results := [], args := [] }

/-- 'laws.FnRotate': WHATEVER THE INPUT: true; the input reads as it did. -/
def fnRotateSpec : ChangeSpec := { name := "fnRotate", fn := fun _ => fun
  | [d] => { results := [.lit (.bool true)], args := [d] }
  | _ => none }
def fnRotateRow : OpenClaim := { program := "yteohmffbehbjpaa", sum := "fc3ed0e02b82571fe6b198b5a0e7ce4cd1d1e6e61b9ba033edaf3ec4004579db", func := "loop.example/pub-g01458/laws.FnRotate", spec := "fnRotate", apart := false }
def FnRotateSaid : Prop := fnRotateRow.holds Try.pinned (OpenSpec.ofChange fnRotateSpec)

/-- ITS FALSE NEIGHBOUR: 'it returns false'. Refute it at one input. -/
def fnRotateWrong : ChangeSpec := { name := "fnRotate", fn := fun _ => fun
  | [d] => { results := [.lit (.bool false)], args := [d] }
  | _ => none }
def FnRotateWrongFalsely : Prop := fnRotateRow.holds Try.pinned (OpenSpec.ofChange fnRotateWrong)

/-- 'laws.FnRotateInverted': WHATEVER THE INPUT: true; the input reads as it did. -/
def fnRotateInvertedSpec : ChangeSpec := { name := "fnRotateInverted", fn := fun _ => fun
  | [d] => { results := [.lit (.bool true)], args := [d] }
  | _ => none }
def fnRotateInvertedRow : OpenClaim := { program := "yteohmffbehbjpaa", sum := "fc3ed0e02b82571fe6b198b5a0e7ce4cd1d1e6e61b9ba033edaf3ec4004579db", func := "loop.example/pub-g01458/laws.FnRotateInverted", spec := "fnRotateInverted", apart := false }
def FnRotateInvertedSaid : Prop := fnRotateInvertedRow.holds Try.pinned (OpenSpec.ofChange fnRotateInvertedSpec)

/-- ITS FALSE NEIGHBOUR: 'it returns false'. Refute it at one input. -/
def fnRotateInvertedWrong : ChangeSpec := { name := "fnRotateInverted", fn := fun _ => fun
  | [d] => { results := [.lit (.bool false)], args := [d] }
  | _ => none }
def FnRotateInvertedWrongFalsely : Prop := fnRotateInvertedRow.holds Try.pinned (OpenSpec.ofChange fnRotateInvertedWrong)

/-- 'laws.FnRotateMade': WHATEVER THE INPUT: true; the input reads as it did. -/
def fnRotateMadeSpec : ChangeSpec := { name := "fnRotateMade", fn := fun _ => fun
  | [d1, d2] => { results := [.lit (.bool true)], args := [d1, d2] }
  | _ => none }
def fnRotateMadeRow : OpenClaim := { program := "yteohmffbehbjpaa", sum := "fc3ed0e02b82571fe6b198b5a0e7ce4cd1d1e6e61b9ba033edaf3ec4004579db", func := "loop.example/pub-g01458/laws.FnRotateMade", spec := "fnRotateMade", apart := false }
def FnRotateMadeSaid : Prop := fnRotateMadeRow.holds Try.pinned (OpenSpec.ofChange fnRotateMadeSpec)

/-- ITS FALSE NEIGHBOUR: 'it returns false'. Refute it at one input. -/
def fnRotateMadeWrong : ChangeSpec := { name := "fnRotateMade", fn := fun _ => fun
  | [d1, d2] => { results := [.lit (.bool false)], args := [d1, d2] }
  | _ => none }
def FnRotateMadeWrongFalsely : Prop := fnRotateMadeRow.holds Try.pinned (OpenSpec.ofChange fnRotateMadeWrong)

/-- 'laws.FnRotateTurned': WHATEVER THE INPUT: true; the input reads as it did. -/
def fnRotateTurnedSpec : ChangeSpec := { name := "fnRotateTurned", fn := fun _ => fun
  | [d] => { results := [.lit (.bool true)], args := [d] }
  | _ => none }
def fnRotateTurnedRow : OpenClaim := { program := "yteohmffbehbjpaa", sum := "fc3ed0e02b82571fe6b198b5a0e7ce4cd1d1e6e61b9ba033edaf3ec4004579db", func := "loop.example/pub-g01458/laws.FnRotateTurned", spec := "fnRotateTurned", apart := false }
def FnRotateTurnedSaid : Prop := fnRotateTurnedRow.holds Try.pinned (OpenSpec.ofChange fnRotateTurnedSpec)

/-- ITS FALSE NEIGHBOUR: 'it returns false'. Refute it at one input. -/
def fnRotateTurnedWrong : ChangeSpec := { name := "fnRotateTurned", fn := fun _ => fun
  | [d] => { results := [.lit (.bool false)], args := [d] }
  | _ => none }
def FnRotateTurnedWrongFalsely : Prop := fnRotateTurnedRow.holds Try.pinned (OpenSpec.ofChange fnRotateTurnedWrong)

/-- 'laws.FnRotateBitcon': WHATEVER THE INPUT: true; the input reads as it did. -/
def fnRotateBitconSpec : ChangeSpec := { name := "fnRotateBitcon", fn := fun _ => fun
  | [d] => { results := [.lit (.bool true)], args := [d] }
  | _ => none }
def fnRotateBitconRow : OpenClaim := { program := "yteohmffbehbjpaa", sum := "fc3ed0e02b82571fe6b198b5a0e7ce4cd1d1e6e61b9ba033edaf3ec4004579db", func := "loop.example/pub-g01458/laws.FnRotateBitcon", spec := "fnRotateBitcon", apart := false }
def FnRotateBitconSaid : Prop := fnRotateBitconRow.holds Try.pinned (OpenSpec.ofChange fnRotateBitconSpec)

/-- ITS FALSE NEIGHBOUR: 'it returns false'. Refute it at one input. -/
def fnRotateBitconWrong : ChangeSpec := { name := "fnRotateBitcon", fn := fun _ => fun
  | [d] => { results := [.lit (.bool false)], args := [d] }
  | _ => none }
def FnRotateBitconWrongFalsely : Prop := fnRotateBitconRow.holds Try.pinned (OpenSpec.ofChange fnRotateBitconWrong)

/- THE SECOND FORM. 'bulk': how many values and letters a reading holds, each counted each time it is reached (what is shared counts as often as it is met; a slice's spare places count too). A statement '..UptoSaid' is the law's where the arguments, and the package variables that the reading takes, are together of bulk at most 1048576: NARROWER than '..Said'. Prove '..Said' where nothing that the law and all that it calls make is longer than what came in: it says more and counts as full. Else prove '..UptoSaid'. A law counts once. -/
mutual
def uptoBulk {H : Type} : DataW H → Nat
  | .lit (.string bytes) => bytes.length + 1
  | .lit _ => 1
  | .nil => 1
  | .ptr d => uptoBulk d + 1
  | .slice elems spare => uptoBulkAll elems + uptoBulkAll spare + 1
  | .agg parts => uptoBulkAll parts + 1
  | .iface _ d => uptoBulk d + 1
  | .map entries => uptoBulkEntries entries + 1
  | .held _ => 1
def uptoBulkAll {H : Type} : List (DataW H) → Nat
  | [] => 0
  | d :: r => uptoBulk d + uptoBulkAll r
def uptoBulkEntries {H : Type} : List (Lit × DataW H) → Nat
  | [] => 0
  | x :: r => uptoBulkEntry x + uptoBulkEntries r
def uptoBulkEntry {H : Type} : Lit × DataW H → Nat
  | (.string bytes, d) => bytes.length + uptoBulk d + 1
  | (_, d) => uptoBulk d + 1
 end
def uptoSmall : (H : Type) → List (DataW H) → Bool := fun _ ds => decide (uptoBulkAll ds ≤ 1048576)
def OpenSpec.upto (s : _root_.Go.ChangeSpec) : _root_.Go.OpenSpec := { _root_.Go.OpenSpec.ofChange s with cond := some uptoSmall }

/-- 'laws.FnRotate', WHERE WHAT IT READS IS OF BULK AT MOST 1048576: true; the input reads as it did. -/
def fnRotateUptoRow : OpenClaim := { program := "yteohmffbehbjpaa", sum := "fc3ed0e02b82571fe6b198b5a0e7ce4cd1d1e6e61b9ba033edaf3ec4004579db", func := "loop.example/pub-g01458/laws.FnRotate", spec := "fnRotate", apart := false, narrowed := true }
def FnRotateUptoSaid : Prop := fnRotateUptoRow.holds Try.pinned (OpenSpec.upto fnRotateSpec)

/-- 'laws.FnRotateInverted', WHERE WHAT IT READS IS OF BULK AT MOST 1048576: true; the input reads as it did. -/
def fnRotateInvertedUptoRow : OpenClaim := { program := "yteohmffbehbjpaa", sum := "fc3ed0e02b82571fe6b198b5a0e7ce4cd1d1e6e61b9ba033edaf3ec4004579db", func := "loop.example/pub-g01458/laws.FnRotateInverted", spec := "fnRotateInverted", apart := false, narrowed := true }
def FnRotateInvertedUptoSaid : Prop := fnRotateInvertedUptoRow.holds Try.pinned (OpenSpec.upto fnRotateInvertedSpec)

/-- 'laws.FnRotateMade', WHERE WHAT IT READS IS OF BULK AT MOST 1048576: true; the input reads as it did. -/
def fnRotateMadeUptoRow : OpenClaim := { program := "yteohmffbehbjpaa", sum := "fc3ed0e02b82571fe6b198b5a0e7ce4cd1d1e6e61b9ba033edaf3ec4004579db", func := "loop.example/pub-g01458/laws.FnRotateMade", spec := "fnRotateMade", apart := false, narrowed := true }
def FnRotateMadeUptoSaid : Prop := fnRotateMadeUptoRow.holds Try.pinned (OpenSpec.upto fnRotateMadeSpec)

/-- 'laws.FnRotateTurned', WHERE WHAT IT READS IS OF BULK AT MOST 1048576: true; the input reads as it did. -/
def fnRotateTurnedUptoRow : OpenClaim := { program := "yteohmffbehbjpaa", sum := "fc3ed0e02b82571fe6b198b5a0e7ce4cd1d1e6e61b9ba033edaf3ec4004579db", func := "loop.example/pub-g01458/laws.FnRotateTurned", spec := "fnRotateTurned", apart := false, narrowed := true }
def FnRotateTurnedUptoSaid : Prop := fnRotateTurnedUptoRow.holds Try.pinned (OpenSpec.upto fnRotateTurnedSpec)

/-- 'laws.FnRotateBitcon', WHERE WHAT IT READS IS OF BULK AT MOST 1048576: true; the input reads as it did. -/
def fnRotateBitconUptoRow : OpenClaim := { program := "yteohmffbehbjpaa", sum := "fc3ed0e02b82571fe6b198b5a0e7ce4cd1d1e6e61b9ba033edaf3ec4004579db", func := "loop.example/pub-g01458/laws.FnRotateBitcon", spec := "fnRotateBitcon", apart := false, narrowed := true }
def FnRotateBitconUptoSaid : Prop := fnRotateBitconUptoRow.holds Try.pinned (OpenSpec.upto fnRotateBitconSpec)

end Rows
end Go.Proofs.Yteohmffbehbjpaa
