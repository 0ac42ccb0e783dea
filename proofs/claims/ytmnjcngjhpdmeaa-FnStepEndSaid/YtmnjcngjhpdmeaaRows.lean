/-
  No cell of these rows narrows 'for every input' (looked for: loops, veiled, ifaces, maps, wideKeys, modest, calm, conditions, laid).
  DERIVED. THE GIVEN ROWS OF THIS SEAT. 9 by the template 'for every input the law returns true; each argument reads behind the call as it read before'; 0 by the template 'total and deterministic' (their statements: YtmnjcngjhpdmeaaTotals.lean).
  GIVEN WITH THE SEED: the statements are not yours to turn. If you find one false, say at which input.
  Laid BY PROGRAM, IN A SANDBOX (cutbox-rows.mjs): the forced cells as the released guide's own fill.sh prints them over the translation bdb77934fc8b4cc8… (all of the seat's roots in one cut). By AI agents, Wed Nov 11 2026. No macro, syntax, notation, axiom, sorry.
-/
import Derived.Test.YtmnjcngjhpdmeaaChecked
import GoSem.Claim
import GoSem.ClaimJoined
import GoSem.ClaimMapViews
import Derived.JoinedTies
import Derived.KernelRfl
namespace Go.Proofs.Ytmnjcngjhpdmeaa
/- THE CELL 'sum', in the pinned program and in every row, IS THE sha256 OF THE DUMP (.gsa) THAT YtmnjcngjhpdmeaaProg.lean LOADS. Nothing in Lean hashes anything: it is a label: what it is worth is what the hold of that sum in a sandbox is worth. -/
noncomputable def Try.pinned : Pinned := { name := "ytmnjcngjhpdmeaa", sum := "bdb77934fc8b4cc850676224067b10f8557b5b738936b07367d9c7220e721e3e", checked := Try.checked }
namespace Rows
def none {H : Type} : Left H := { results := [], args := [] }

/-- 'laws.FnVarint': WHATEVER THE INPUT: true; the input reads as it did. -/
def fnVarintSpec : ChangeSpec := { name := "fnVarint", fn := fun _ => fun
  | [d1, d2] => { results := [.lit (.bool true)], args := [d1, d2] }
  | _ => none }
def fnVarintRow : OpenClaim := { program := "ytmnjcngjhpdmeaa", sum := "bdb77934fc8b4cc850676224067b10f8557b5b738936b07367d9c7220e721e3e", func := "loop.example/pub-g01458/laws.FnVarint", spec := "fnVarint", apart := false }
def FnVarintSaid : Prop := fnVarintRow.holds Try.pinned (OpenSpec.ofChange fnVarintSpec)

/-- ITS FALSE NEIGHBOUR: 'it returns false'. Refute it at one input. -/
def fnVarintWrong : ChangeSpec := { name := "fnVarint", fn := fun _ => fun
  | [d1, d2] => { results := [.lit (.bool false)], args := [d1, d2] }
  | _ => none }
def FnVarintWrongFalsely : Prop := fnVarintRow.holds Try.pinned (OpenSpec.ofChange fnVarintWrong)

/-- 'laws.FnVarintSmall': WHATEVER THE INPUT: true; the input reads as it did. -/
def fnVarintSmallSpec : ChangeSpec := { name := "fnVarintSmall", fn := fun _ => fun
  | [d1, d2] => { results := [.lit (.bool true)], args := [d1, d2] }
  | _ => none }
def fnVarintSmallRow : OpenClaim := { program := "ytmnjcngjhpdmeaa", sum := "bdb77934fc8b4cc850676224067b10f8557b5b738936b07367d9c7220e721e3e", func := "loop.example/pub-g01458/laws.FnVarintSmall", spec := "fnVarintSmall", apart := false }
def FnVarintSmallSaid : Prop := fnVarintSmallRow.holds Try.pinned (OpenSpec.ofChange fnVarintSmallSpec)

/-- ITS FALSE NEIGHBOUR: 'it returns false'. Refute it at one input. -/
def fnVarintSmallWrong : ChangeSpec := { name := "fnVarintSmall", fn := fun _ => fun
  | [d1, d2] => { results := [.lit (.bool false)], args := [d1, d2] }
  | _ => none }
def FnVarintSmallWrongFalsely : Prop := fnVarintSmallRow.holds Try.pinned (OpenSpec.ofChange fnVarintSmallWrong)

/-- 'laws.FnVarintTwo': WHATEVER THE INPUT: true; the input reads as it did. -/
def fnVarintTwoSpec : ChangeSpec := { name := "fnVarintTwo", fn := fun _ => fun
  | [d1, d2] => { results := [.lit (.bool true)], args := [d1, d2] }
  | _ => none }
def fnVarintTwoRow : OpenClaim := { program := "ytmnjcngjhpdmeaa", sum := "bdb77934fc8b4cc850676224067b10f8557b5b738936b07367d9c7220e721e3e", func := "loop.example/pub-g01458/laws.FnVarintTwo", spec := "fnVarintTwo", apart := false }
def FnVarintTwoSaid : Prop := fnVarintTwoRow.holds Try.pinned (OpenSpec.ofChange fnVarintTwoSpec)

/-- ITS FALSE NEIGHBOUR: 'it returns false'. Refute it at one input. -/
def fnVarintTwoWrong : ChangeSpec := { name := "fnVarintTwo", fn := fun _ => fun
  | [d1, d2] => { results := [.lit (.bool false)], args := [d1, d2] }
  | _ => none }
def FnVarintTwoWrongFalsely : Prop := fnVarintTwoRow.holds Try.pinned (OpenSpec.ofChange fnVarintTwoWrong)

/-- 'laws.FnStep': WHATEVER THE INPUT: true; the input reads as it did. -/
def fnStepSpec : ChangeSpec := { name := "fnStep", fn := fun _ => fun
  | [d1, d2, d3, d4, d5, d6] => { results := [.lit (.bool true)], args := [d1, d2, d3, d4, d5, d6] }
  | _ => none }
def fnStepRow : OpenClaim := { program := "ytmnjcngjhpdmeaa", sum := "bdb77934fc8b4cc850676224067b10f8557b5b738936b07367d9c7220e721e3e", func := "loop.example/pub-g01458/laws.FnStep", spec := "fnStep", apart := false }
def FnStepSaid : Prop := fnStepRow.holds Try.pinned (OpenSpec.ofChange fnStepSpec)

/-- ITS FALSE NEIGHBOUR: 'it returns false'. Refute it at one input. -/
def fnStepWrong : ChangeSpec := { name := "fnStep", fn := fun _ => fun
  | [d1, d2, d3, d4, d5, d6] => { results := [.lit (.bool false)], args := [d1, d2, d3, d4, d5, d6] }
  | _ => none }
def FnStepWrongFalsely : Prop := fnStepRow.holds Try.pinned (OpenSpec.ofChange fnStepWrong)

/-- 'laws.FnStepEnd': WHATEVER THE INPUT: true; the input reads as it did. -/
def fnStepEndSpec : ChangeSpec := { name := "fnStepEnd", fn := fun _ => fun
  | [d1, d2, d3] => { results := [.lit (.bool true)], args := [d1, d2, d3] }
  | _ => none }
def fnStepEndRow : OpenClaim := { program := "ytmnjcngjhpdmeaa", sum := "bdb77934fc8b4cc850676224067b10f8557b5b738936b07367d9c7220e721e3e", func := "loop.example/pub-g01458/laws.FnStepEnd", spec := "fnStepEnd", apart := false }
def FnStepEndSaid : Prop := fnStepEndRow.holds Try.pinned (OpenSpec.ofChange fnStepEndSpec)

/-- ITS FALSE NEIGHBOUR: 'it returns false'. Refute it at one input. -/
def fnStepEndWrong : ChangeSpec := { name := "fnStepEnd", fn := fun _ => fun
  | [d1, d2, d3] => { results := [.lit (.bool false)], args := [d1, d2, d3] }
  | _ => none }
def FnStepEndWrongFalsely : Prop := fnStepEndRow.holds Try.pinned (OpenSpec.ofChange fnStepEndWrong)

/-- 'laws.FnStepFirst': WHATEVER THE INPUT: true; the input reads as it did. -/
def fnStepFirstSpec : ChangeSpec := { name := "fnStepFirst", fn := fun _ => fun
  | [d1, d2, d3, d4] => { results := [.lit (.bool true)], args := [d1, d2, d3, d4] }
  | _ => none }
def fnStepFirstRow : OpenClaim := { program := "ytmnjcngjhpdmeaa", sum := "bdb77934fc8b4cc850676224067b10f8557b5b738936b07367d9c7220e721e3e", func := "loop.example/pub-g01458/laws.FnStepFirst", spec := "fnStepFirst", apart := false }
def FnStepFirstSaid : Prop := fnStepFirstRow.holds Try.pinned (OpenSpec.ofChange fnStepFirstSpec)

/-- ITS FALSE NEIGHBOUR: 'it returns false'. Refute it at one input. -/
def fnStepFirstWrong : ChangeSpec := { name := "fnStepFirst", fn := fun _ => fun
  | [d1, d2, d3, d4] => { results := [.lit (.bool false)], args := [d1, d2, d3, d4] }
  | _ => none }
def FnStepFirstWrongFalsely : Prop := fnStepFirstRow.holds Try.pinned (OpenSpec.ofChange fnStepFirstWrong)

/-- 'laws.FnSteps': WHATEVER THE INPUT: true; the input reads as it did. -/
def fnStepsSpec : ChangeSpec := { name := "fnSteps", fn := fun _ => fun
  | [d1, d2] => { results := [.lit (.bool true)], args := [d1, d2] }
  | _ => none }
def fnStepsRow : OpenClaim := { program := "ytmnjcngjhpdmeaa", sum := "bdb77934fc8b4cc850676224067b10f8557b5b738936b07367d9c7220e721e3e", func := "loop.example/pub-g01458/laws.FnSteps", spec := "fnSteps", apart := false }
def FnStepsSaid : Prop := fnStepsRow.holds Try.pinned (OpenSpec.ofChange fnStepsSpec)

/-- ITS FALSE NEIGHBOUR: 'it returns false'. Refute it at one input. -/
def fnStepsWrong : ChangeSpec := { name := "fnSteps", fn := fun _ => fun
  | [d1, d2] => { results := [.lit (.bool false)], args := [d1, d2] }
  | _ => none }
def FnStepsWrongFalsely : Prop := fnStepsRow.holds Try.pinned (OpenSpec.ofChange fnStepsWrong)

/-- 'laws.FnValueBehind': WHATEVER THE INPUT: true; the input reads as it did. -/
def fnValueBehindSpec : ChangeSpec := { name := "fnValueBehind", fn := fun _ => fun
  | [d1, d2, d3, d4] => { results := [.lit (.bool true)], args := [d1, d2, d3, d4] }
  | _ => none }
def fnValueBehindRow : OpenClaim := { program := "ytmnjcngjhpdmeaa", sum := "bdb77934fc8b4cc850676224067b10f8557b5b738936b07367d9c7220e721e3e", func := "loop.example/pub-g01458/laws.FnValueBehind", spec := "fnValueBehind", apart := false }
def FnValueBehindSaid : Prop := fnValueBehindRow.holds Try.pinned (OpenSpec.ofChange fnValueBehindSpec)

/-- ITS FALSE NEIGHBOUR: 'it returns false'. Refute it at one input. -/
def fnValueBehindWrong : ChangeSpec := { name := "fnValueBehind", fn := fun _ => fun
  | [d1, d2, d3, d4] => { results := [.lit (.bool false)], args := [d1, d2, d3, d4] }
  | _ => none }
def FnValueBehindWrongFalsely : Prop := fnValueBehindRow.holds Try.pinned (OpenSpec.ofChange fnValueBehindWrong)

/-- 'laws.FnValueEdges': WHATEVER THE INPUT: true; the input reads as it did. -/
def fnValueEdgesSpec : ChangeSpec := { name := "fnValueEdges", fn := fun _ => fun
  | [d1, d2] => { results := [.lit (.bool true)], args := [d1, d2] }
  | _ => none }
def fnValueEdgesRow : OpenClaim := { program := "ytmnjcngjhpdmeaa", sum := "bdb77934fc8b4cc850676224067b10f8557b5b738936b07367d9c7220e721e3e", func := "loop.example/pub-g01458/laws.FnValueEdges", spec := "fnValueEdges", apart := false }
def FnValueEdgesSaid : Prop := fnValueEdgesRow.holds Try.pinned (OpenSpec.ofChange fnValueEdgesSpec)

/-- ITS FALSE NEIGHBOUR: 'it returns false'. Refute it at one input. -/
def fnValueEdgesWrong : ChangeSpec := { name := "fnValueEdges", fn := fun _ => fun
  | [d1, d2] => { results := [.lit (.bool false)], args := [d1, d2] }
  | _ => none }
def FnValueEdgesWrongFalsely : Prop := fnValueEdgesRow.holds Try.pinned (OpenSpec.ofChange fnValueEdgesWrong)

/- THE SECOND FORM. 'bulk': how many values and letters a reading holds, each counted each time it is reached (what is shared counts as often as it is met; a slice's spare places count too). A statement '..UptoSaid' is the law's where the arguments, and the package variables that the reading takes, are together of bulk at most 1048576: NARROWER than '..Said'. Prove '..Said' where nothing that the law and all that it calls make is longer than what came in: it says more and counts as full. Else prove '..UptoSaid'. A law counts once. -/
mutual
def uptoBulk {H : Type} : DataW H → Nat
  | .lit (.string bytes) => bytes.length + 1
  | .lit _ => 1
  | .nil => 1
  | .ptr d => uptoBulk d + 1
  | .slice elems spare => uptoBulkAll elems + uptoBulkAll spare + 1
  | .agg parts => uptoBulkAll parts + 1
  | .iface _ d => uptoBulk d + 1
  | .map entries => uptoBulkEntries entries + 1
  | .held _ => 1
def uptoBulkAll {H : Type} : List (DataW H) → Nat
  | [] => 0
  | d :: r => uptoBulk d + uptoBulkAll r
def uptoBulkEntries {H : Type} : List (Lit × DataW H) → Nat
  | [] => 0
  | x :: r => uptoBulkEntry x + uptoBulkEntries r
def uptoBulkEntry {H : Type} : Lit × DataW H → Nat
  | (.string bytes, d) => bytes.length + uptoBulk d + 1
  | (_, d) => uptoBulk d + 1
 end
def uptoSmall : (H : Type) → List (DataW H) → Bool := fun _ ds => decide (uptoBulkAll ds ≤ 1048576)
def OpenSpec.upto (s : _root_.Go.ChangeSpec) : _root_.Go.OpenSpec := { _root_.Go.OpenSpec.ofChange s with cond := some uptoSmall }

/-- 'laws.FnVarint', WHERE WHAT IT READS IS OF BULK AT MOST 1048576: true; the input reads as it did. -/
def fnVarintUptoRow : OpenClaim := { program := "ytmnjcngjhpdmeaa", sum := "bdb77934fc8b4cc850676224067b10f8557b5b738936b07367d9c7220e721e3e", func := "loop.example/pub-g01458/laws.FnVarint", spec := "fnVarint", apart := false, narrowed := true }
def FnVarintUptoSaid : Prop := fnVarintUptoRow.holds Try.pinned (OpenSpec.upto fnVarintSpec)

/-- 'laws.FnVarintSmall', WHERE WHAT IT READS IS OF BULK AT MOST 1048576: true; the input reads as it did. -/
def fnVarintSmallUptoRow : OpenClaim := { program := "ytmnjcngjhpdmeaa", sum := "bdb77934fc8b4cc850676224067b10f8557b5b738936b07367d9c7220e721e3e", func := "loop.example/pub-g01458/laws.FnVarintSmall", spec := "fnVarintSmall", apart := false, narrowed := true }
def FnVarintSmallUptoSaid : Prop := fnVarintSmallUptoRow.holds Try.pinned (OpenSpec.upto fnVarintSmallSpec)

/-- 'laws.FnVarintTwo', WHERE WHAT IT READS IS OF BULK AT MOST 1048576: true; the input reads as it did. -/
def fnVarintTwoUptoRow : OpenClaim := { program := "ytmnjcngjhpdmeaa", sum := "bdb77934fc8b4cc850676224067b10f8557b5b738936b07367d9c7220e721e3e", func := "loop.example/pub-g01458/laws.FnVarintTwo", spec := "fnVarintTwo", apart := false, narrowed := true }
def FnVarintTwoUptoSaid : Prop := fnVarintTwoUptoRow.holds Try.pinned (OpenSpec.upto fnVarintTwoSpec)

/-- 'laws.FnStep', WHERE WHAT IT READS IS OF BULK AT MOST 1048576: true; the input reads as it did. -/
def fnStepUptoRow : OpenClaim := { program := "ytmnjcngjhpdmeaa", sum := "bdb77934fc8b4cc850676224067b10f8557b5b738936b07367d9c7220e721e3e", func := "loop.example/pub-g01458/laws.FnStep", spec := "fnStep", apart := false, narrowed := true }
def FnStepUptoSaid : Prop := fnStepUptoRow.holds Try.pinned (OpenSpec.upto fnStepSpec)

/-- 'laws.FnStepEnd', WHERE WHAT IT READS IS OF BULK AT MOST 1048576: true; the input reads as it did. -/
def fnStepEndUptoRow : OpenClaim := { program := "ytmnjcngjhpdmeaa", sum := "bdb77934fc8b4cc850676224067b10f8557b5b738936b07367d9c7220e721e3e", func := "loop.example/pub-g01458/laws.FnStepEnd", spec := "fnStepEnd", apart := false, narrowed := true }
def FnStepEndUptoSaid : Prop := fnStepEndUptoRow.holds Try.pinned (OpenSpec.upto fnStepEndSpec)

/-- 'laws.FnStepFirst', WHERE WHAT IT READS IS OF BULK AT MOST 1048576: true; the input reads as it did. -/
def fnStepFirstUptoRow : OpenClaim := { program := "ytmnjcngjhpdmeaa", sum := "bdb77934fc8b4cc850676224067b10f8557b5b738936b07367d9c7220e721e3e", func := "loop.example/pub-g01458/laws.FnStepFirst", spec := "fnStepFirst", apart := false, narrowed := true }
def FnStepFirstUptoSaid : Prop := fnStepFirstUptoRow.holds Try.pinned (OpenSpec.upto fnStepFirstSpec)

/-- 'laws.FnSteps', WHERE WHAT IT READS IS OF BULK AT MOST 1048576: true; the input reads as it did. -/
def fnStepsUptoRow : OpenClaim := { program := "ytmnjcngjhpdmeaa", sum := "bdb77934fc8b4cc850676224067b10f8557b5b738936b07367d9c7220e721e3e", func := "loop.example/pub-g01458/laws.FnSteps", spec := "fnSteps", apart := false, narrowed := true }
def FnStepsUptoSaid : Prop := fnStepsUptoRow.holds Try.pinned (OpenSpec.upto fnStepsSpec)

/-- 'laws.FnValueBehind', WHERE WHAT IT READS IS OF BULK AT MOST 1048576: true; the input reads as it did. -/
def fnValueBehindUptoRow : OpenClaim := { program := "ytmnjcngjhpdmeaa", sum := "bdb77934fc8b4cc850676224067b10f8557b5b738936b07367d9c7220e721e3e", func := "loop.example/pub-g01458/laws.FnValueBehind", spec := "fnValueBehind", apart := false, narrowed := true }
def FnValueBehindUptoSaid : Prop := fnValueBehindUptoRow.holds Try.pinned (OpenSpec.upto fnValueBehindSpec)

/-- 'laws.FnValueEdges', WHERE WHAT IT READS IS OF BULK AT MOST 1048576: true; the input reads as it did. -/
def fnValueEdgesUptoRow : OpenClaim := { program := "ytmnjcngjhpdmeaa", sum := "bdb77934fc8b4cc850676224067b10f8557b5b738936b07367d9c7220e721e3e", func := "loop.example/pub-g01458/laws.FnValueEdges", spec := "fnValueEdges", apart := false, narrowed := true }
def FnValueEdgesUptoSaid : Prop := fnValueEdgesUptoRow.holds Try.pinned (OpenSpec.upto fnValueEdgesSpec)

end Rows
end Go.Proofs.Ytmnjcngjhpdmeaa
