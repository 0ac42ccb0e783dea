/-
  No cell of these rows narrows 'for every input' (looked for: loops, veiled, ifaces, maps, wideKeys, modest, calm, conditions, laid).
  DERIVED. THE GIVEN ROWS OF THIS SEAT. 10 by the template 'for every input the law returns true; each argument reads behind the call as it read before'; 0 by the template 'total and deterministic' (their statements: YtfjegjdphfppkaaTotals.lean).
  GIVEN WITH THE SEED: the statements are not yours to turn. If you find one false, say at which input.
  Laid BY PROGRAM, IN A SANDBOX (cutbox-rows.mjs): the forced cells as the released guide's own fill.sh prints them over the translation ed5ba1c2644a29aa… (all of the seat's roots in one cut). By AI agents, Wed Nov 11 2026. No macro, syntax, notation, axiom, sorry.
-/
import Derived.Test.YtfjegjdphfppkaaChecked
import GoSem.Claim
import GoSem.ClaimJoined
import GoSem.ClaimMapViews
import Derived.JoinedTies
import Derived.KernelRfl
namespace Go.Proofs.Ytfjegjdphfppkaa
/- THE CELL 'sum', in the pinned program and in every row, IS THE sha256 OF THE DUMP (.gsa) THAT YtfjegjdphfppkaaProg.lean LOADS. Nothing in Lean hashes anything: it is a label: what it is worth is what the hold of that sum in a sandbox is worth. -/
noncomputable def Try.pinned : Pinned := { name := "ytfjegjdphfppkaa", sum := "ed5ba1c2644a29aa12b5136174ef7330d9974b1c25b37c373966876dac8e288b", checked := Try.checked }
namespace Rows
def none {H : Type} : Left H := { results := [], args := [] }

/-- 'laws.FnLog2': WHATEVER THE INPUT: true; the input reads as it did. -/
def fnLog2Spec : ChangeSpec := { name := "fnLog2", fn := fun _ => fun
  | [d] => { results := [.lit (.bool true)], args := [d] }
  | _ => none }
def fnLog2Row : OpenClaim := { program := "ytfjegjdphfppkaa", sum := "ed5ba1c2644a29aa12b5136174ef7330d9974b1c25b37c373966876dac8e288b", func := "loop.example/pub-g01458/laws.FnLog2", spec := "fnLog2", apart := false }
def FnLog2Said : Prop := fnLog2Row.holds Try.pinned (OpenSpec.ofChange fnLog2Spec)

/-- ITS FALSE NEIGHBOUR: 'it returns false'. Refute it at one input. -/
def fnLog2Wrong : ChangeSpec := { name := "fnLog2", fn := fun _ => fun
  | [d] => { results := [.lit (.bool false)], args := [d] }
  | _ => none }
def FnLog2WrongFalsely : Prop := fnLog2Row.holds Try.pinned (OpenSpec.ofChange fnLog2Wrong)

/-- 'laws.FnLog2Double': WHATEVER THE INPUT: true; the input reads as it did. -/
def fnLog2DoubleSpec : ChangeSpec := { name := "fnLog2Double", fn := fun _ => fun
  | [d] => { results := [.lit (.bool true)], args := [d] }
  | _ => none }
def fnLog2DoubleRow : OpenClaim := { program := "ytfjegjdphfppkaa", sum := "ed5ba1c2644a29aa12b5136174ef7330d9974b1c25b37c373966876dac8e288b", func := "loop.example/pub-g01458/laws.FnLog2Double", spec := "fnLog2Double", apart := false }
def FnLog2DoubleSaid : Prop := fnLog2DoubleRow.holds Try.pinned (OpenSpec.ofChange fnLog2DoubleSpec)

/-- ITS FALSE NEIGHBOUR: 'it returns false'. Refute it at one input. -/
def fnLog2DoubleWrong : ChangeSpec := { name := "fnLog2Double", fn := fun _ => fun
  | [d] => { results := [.lit (.bool false)], args := [d] }
  | _ => none }
def FnLog2DoubleWrongFalsely : Prop := fnLog2DoubleRow.holds Try.pinned (OpenSpec.ofChange fnLog2DoubleWrong)

/-- 'laws.FnLog2Power': WHATEVER THE INPUT: true; the input reads as it did. -/
def fnLog2PowerSpec : ChangeSpec := { name := "fnLog2Power", fn := fun _ => fun
  | [d] => { results := [.lit (.bool true)], args := [d] }
  | _ => none }
def fnLog2PowerRow : OpenClaim := { program := "ytfjegjdphfppkaa", sum := "ed5ba1c2644a29aa12b5136174ef7330d9974b1c25b37c373966876dac8e288b", func := "loop.example/pub-g01458/laws.FnLog2Power", spec := "fnLog2Power", apart := false }
def FnLog2PowerSaid : Prop := fnLog2PowerRow.holds Try.pinned (OpenSpec.ofChange fnLog2PowerSpec)

/-- ITS FALSE NEIGHBOUR: 'it returns false'. Refute it at one input. -/
def fnLog2PowerWrong : ChangeSpec := { name := "fnLog2Power", fn := fun _ => fun
  | [d] => { results := [.lit (.bool false)], args := [d] }
  | _ => none }
def FnLog2PowerWrongFalsely : Prop := fnLog2PowerRow.holds Try.pinned (OpenSpec.ofChange fnLog2PowerWrong)

/-- 'laws.FnClass': WHATEVER THE INPUT: true; the input reads as it did. -/
def fnClassSpec : ChangeSpec := { name := "fnClass", fn := fun _ => fun
  | [d] => { results := [.lit (.bool true)], args := [d] }
  | _ => none }
def fnClassRow : OpenClaim := { program := "ytfjegjdphfppkaa", sum := "ed5ba1c2644a29aa12b5136174ef7330d9974b1c25b37c373966876dac8e288b", func := "loop.example/pub-g01458/laws.FnClass", spec := "fnClass", apart := false }
def FnClassSaid : Prop := fnClassRow.holds Try.pinned (OpenSpec.ofChange fnClassSpec)

/-- ITS FALSE NEIGHBOUR: 'it returns false'. Refute it at one input. -/
def fnClassWrong : ChangeSpec := { name := "fnClass", fn := fun _ => fun
  | [d] => { results := [.lit (.bool false)], args := [d] }
  | _ => none }
def FnClassWrongFalsely : Prop := fnClassRow.holds Try.pinned (OpenSpec.ofChange fnClassWrong)

/-- 'laws.FnClassAdd': WHATEVER THE INPUT: true; the input reads as it did. -/
def fnClassAddSpec : ChangeSpec := { name := "fnClassAdd", fn := fun _ => fun
  | [d] => { results := [.lit (.bool true)], args := [d] }
  | _ => none }
def fnClassAddRow : OpenClaim := { program := "ytfjegjdphfppkaa", sum := "ed5ba1c2644a29aa12b5136174ef7330d9974b1c25b37c373966876dac8e288b", func := "loop.example/pub-g01458/laws.FnClassAdd", spec := "fnClassAdd", apart := false }
def FnClassAddSaid : Prop := fnClassAddRow.holds Try.pinned (OpenSpec.ofChange fnClassAddSpec)

/-- ITS FALSE NEIGHBOUR: 'it returns false'. Refute it at one input. -/
def fnClassAddWrong : ChangeSpec := { name := "fnClassAdd", fn := fun _ => fun
  | [d] => { results := [.lit (.bool false)], args := [d] }
  | _ => none }
def FnClassAddWrongFalsely : Prop := fnClassAddRow.holds Try.pinned (OpenSpec.ofChange fnClassAddWrong)

/-- 'laws.FnClassHalfCandidate': WHATEVER THE INPUT: true; the input reads as it did. -/
def fnClassHalfCandidateSpec : ChangeSpec := { name := "fnClassHalfCandidate", fn := fun _ => fun
  | [d] => { results := [.lit (.bool true)], args := [d] }
  | _ => none }
def fnClassHalfCandidateRow : OpenClaim := { program := "ytfjegjdphfppkaa", sum := "ed5ba1c2644a29aa12b5136174ef7330d9974b1c25b37c373966876dac8e288b", func := "loop.example/pub-g01458/laws.FnClassHalfCandidate", spec := "fnClassHalfCandidate", apart := false }
def FnClassHalfCandidateSaid : Prop := fnClassHalfCandidateRow.holds Try.pinned (OpenSpec.ofChange fnClassHalfCandidateSpec)

/-- ITS FALSE NEIGHBOUR: 'it returns false'. Refute it at one input. -/
def fnClassHalfCandidateWrong : ChangeSpec := { name := "fnClassHalfCandidate", fn := fun _ => fun
  | [d] => { results := [.lit (.bool false)], args := [d] }
  | _ => none }
def FnClassHalfCandidateWrongFalsely : Prop := fnClassHalfCandidateRow.holds Try.pinned (OpenSpec.ofChange fnClassHalfCandidateWrong)

/-- 'laws.FnClassMask': WHATEVER THE INPUT: true; the input reads as it did. -/
def fnClassMaskSpec : ChangeSpec := { name := "fnClassMask", fn := fun _ => fun
  | [d1, d2, d3] => { results := [.lit (.bool true)], args := [d1, d2, d3] }
  | _ => none }
def fnClassMaskRow : OpenClaim := { program := "ytfjegjdphfppkaa", sum := "ed5ba1c2644a29aa12b5136174ef7330d9974b1c25b37c373966876dac8e288b", func := "loop.example/pub-g01458/laws.FnClassMask", spec := "fnClassMask", apart := false }
def FnClassMaskSaid : Prop := fnClassMaskRow.holds Try.pinned (OpenSpec.ofChange fnClassMaskSpec)

/-- ITS FALSE NEIGHBOUR: 'it returns false'. Refute it at one input. -/
def fnClassMaskWrong : ChangeSpec := { name := "fnClassMask", fn := fun _ => fun
  | [d1, d2, d3] => { results := [.lit (.bool false)], args := [d1, d2, d3] }
  | _ => none }
def FnClassMaskWrongFalsely : Prop := fnClassMaskRow.holds Try.pinned (OpenSpec.ofChange fnClassMaskWrong)

/-- 'laws.FnClassMove': WHATEVER THE INPUT: true; the input reads as it did. -/
def fnClassMoveSpec : ChangeSpec := { name := "fnClassMove", fn := fun _ => fun
  | [d1, d2, d3] => { results := [.lit (.bool true)], args := [d1, d2, d3] }
  | _ => none }
def fnClassMoveRow : OpenClaim := { program := "ytfjegjdphfppkaa", sum := "ed5ba1c2644a29aa12b5136174ef7330d9974b1c25b37c373966876dac8e288b", func := "loop.example/pub-g01458/laws.FnClassMove", spec := "fnClassMove", apart := false }
def FnClassMoveSaid : Prop := fnClassMoveRow.holds Try.pinned (OpenSpec.ofChange fnClassMoveSpec)

/-- ITS FALSE NEIGHBOUR: 'it returns false'. Refute it at one input. -/
def fnClassMoveWrong : ChangeSpec := { name := "fnClassMove", fn := fun _ => fun
  | [d1, d2, d3] => { results := [.lit (.bool false)], args := [d1, d2, d3] }
  | _ => none }
def FnClassMoveWrongFalsely : Prop := fnClassMoveRow.holds Try.pinned (OpenSpec.ofChange fnClassMoveWrong)

/-- 'laws.FnClassWide': WHATEVER THE INPUT: true; the input reads as it did. -/
def fnClassWideSpec : ChangeSpec := { name := "fnClassWide", fn := fun _ => fun
  | [d] => { results := [.lit (.bool true)], args := [d] }
  | _ => none }
def fnClassWideRow : OpenClaim := { program := "ytfjegjdphfppkaa", sum := "ed5ba1c2644a29aa12b5136174ef7330d9974b1c25b37c373966876dac8e288b", func := "loop.example/pub-g01458/laws.FnClassWide", spec := "fnClassWide", apart := false }
def FnClassWideSaid : Prop := fnClassWideRow.holds Try.pinned (OpenSpec.ofChange fnClassWideSpec)

/-- ITS FALSE NEIGHBOUR: 'it returns false'. Refute it at one input. -/
def fnClassWideWrong : ChangeSpec := { name := "fnClassWide", fn := fun _ => fun
  | [d] => { results := [.lit (.bool false)], args := [d] }
  | _ => none }
def FnClassWideWrongFalsely : Prop := fnClassWideRow.holds Try.pinned (OpenSpec.ofChange fnClassWideWrong)

/-- 'laws.FnClassZero': WHATEVER THE INPUT: true; the input reads as it did. -/
def fnClassZeroSpec : ChangeSpec := { name := "fnClassZero", fn := fun _ => fun
  | [d] => { results := [.lit (.bool true)], args := [d] }
  | _ => none }
def fnClassZeroRow : OpenClaim := { program := "ytfjegjdphfppkaa", sum := "ed5ba1c2644a29aa12b5136174ef7330d9974b1c25b37c373966876dac8e288b", func := "loop.example/pub-g01458/laws.FnClassZero", spec := "fnClassZero", apart := false }
def FnClassZeroSaid : Prop := fnClassZeroRow.holds Try.pinned (OpenSpec.ofChange fnClassZeroSpec)

/-- ITS FALSE NEIGHBOUR: 'it returns false'. Refute it at one input. -/
def fnClassZeroWrong : ChangeSpec := { name := "fnClassZero", fn := fun _ => fun
  | [d] => { results := [.lit (.bool false)], args := [d] }
  | _ => none }
def FnClassZeroWrongFalsely : Prop := fnClassZeroRow.holds Try.pinned (OpenSpec.ofChange fnClassZeroWrong)

/- THE SECOND FORM. 'bulk': how many values and letters a reading holds, each counted each time it is reached (what is shared counts as often as it is met; a slice's spare places count too). A statement '..UptoSaid' is the law's where the arguments, and the package variables that the reading takes, are together of bulk at most 1048576: NARROWER than '..Said'. Prove '..Said' where nothing that the law and all that it calls make is longer than what came in: it says more and counts as full. Else prove '..UptoSaid'. A law counts once. -/
mutual
def uptoBulk {H : Type} : DataW H → Nat
  | .lit (.string bytes) => bytes.length + 1
  | .lit _ => 1
  | .nil => 1
  | .ptr d => uptoBulk d + 1
  | .slice elems spare => uptoBulkAll elems + uptoBulkAll spare + 1
  | .agg parts => uptoBulkAll parts + 1
  | .iface _ d => uptoBulk d + 1
  | .map entries => uptoBulkEntries entries + 1
  | .held _ => 1
def uptoBulkAll {H : Type} : List (DataW H) → Nat
  | [] => 0
  | d :: r => uptoBulk d + uptoBulkAll r
def uptoBulkEntries {H : Type} : List (Lit × DataW H) → Nat
  | [] => 0
  | x :: r => uptoBulkEntry x + uptoBulkEntries r
def uptoBulkEntry {H : Type} : Lit × DataW H → Nat
  | (.string bytes, d) => bytes.length + uptoBulk d + 1
  | (_, d) => uptoBulk d + 1
 end
def uptoSmall : (H : Type) → List (DataW H) → Bool := fun _ ds => decide (uptoBulkAll ds ≤ 1048576)
def OpenSpec.upto (s : _root_.Go.ChangeSpec) : _root_.Go.OpenSpec := { _root_.Go.OpenSpec.ofChange s with cond := some uptoSmall }

/-- 'laws.FnLog2', WHERE WHAT IT READS IS OF BULK AT MOST 1048576: true; the input reads as it did. -/
def fnLog2UptoRow : OpenClaim := { program := "ytfjegjdphfppkaa", sum := "ed5ba1c2644a29aa12b5136174ef7330d9974b1c25b37c373966876dac8e288b", func := "loop.example/pub-g01458/laws.FnLog2", spec := "fnLog2", apart := false, narrowed := true }
def FnLog2UptoSaid : Prop := fnLog2UptoRow.holds Try.pinned (OpenSpec.upto fnLog2Spec)

/-- 'laws.FnLog2Double', WHERE WHAT IT READS IS OF BULK AT MOST 1048576: true; the input reads as it did. -/
def fnLog2DoubleUptoRow : OpenClaim := { program := "ytfjegjdphfppkaa", sum := "ed5ba1c2644a29aa12b5136174ef7330d9974b1c25b37c373966876dac8e288b", func := "loop.example/pub-g01458/laws.FnLog2Double", spec := "fnLog2Double", apart := false, narrowed := true }
def FnLog2DoubleUptoSaid : Prop := fnLog2DoubleUptoRow.holds Try.pinned (OpenSpec.upto fnLog2DoubleSpec)

/-- 'laws.FnLog2Power', WHERE WHAT IT READS IS OF BULK AT MOST 1048576: true; the input reads as it did. -/
def fnLog2PowerUptoRow : OpenClaim := { program := "ytfjegjdphfppkaa", sum := "ed5ba1c2644a29aa12b5136174ef7330d9974b1c25b37c373966876dac8e288b", func := "loop.example/pub-g01458/laws.FnLog2Power", spec := "fnLog2Power", apart := false, narrowed := true }
def FnLog2PowerUptoSaid : Prop := fnLog2PowerUptoRow.holds Try.pinned (OpenSpec.upto fnLog2PowerSpec)

/-- 'laws.FnClass', WHERE WHAT IT READS IS OF BULK AT MOST 1048576: true; the input reads as it did. -/
def fnClassUptoRow : OpenClaim := { program := "ytfjegjdphfppkaa", sum := "ed5ba1c2644a29aa12b5136174ef7330d9974b1c25b37c373966876dac8e288b", func := "loop.example/pub-g01458/laws.FnClass", spec := "fnClass", apart := false, narrowed := true }
def FnClassUptoSaid : Prop := fnClassUptoRow.holds Try.pinned (OpenSpec.upto fnClassSpec)

/-- 'laws.FnClassAdd', WHERE WHAT IT READS IS OF BULK AT MOST 1048576: true; the input reads as it did. -/
def fnClassAddUptoRow : OpenClaim := { program := "ytfjegjdphfppkaa", sum := "ed5ba1c2644a29aa12b5136174ef7330d9974b1c25b37c373966876dac8e288b", func := "loop.example/pub-g01458/laws.FnClassAdd", spec := "fnClassAdd", apart := false, narrowed := true }
def FnClassAddUptoSaid : Prop := fnClassAddUptoRow.holds Try.pinned (OpenSpec.upto fnClassAddSpec)

/-- 'laws.FnClassHalfCandidate', WHERE WHAT IT READS IS OF BULK AT MOST 1048576: true; the input reads as it did. -/
def fnClassHalfCandidateUptoRow : OpenClaim := { program := "ytfjegjdphfppkaa", sum := "ed5ba1c2644a29aa12b5136174ef7330d9974b1c25b37c373966876dac8e288b", func := "loop.example/pub-g01458/laws.FnClassHalfCandidate", spec := "fnClassHalfCandidate", apart := false, narrowed := true }
def FnClassHalfCandidateUptoSaid : Prop := fnClassHalfCandidateUptoRow.holds Try.pinned (OpenSpec.upto fnClassHalfCandidateSpec)

/-- 'laws.FnClassMask', WHERE WHAT IT READS IS OF BULK AT MOST 1048576: true; the input reads as it did. -/
def fnClassMaskUptoRow : OpenClaim := { program := "ytfjegjdphfppkaa", sum := "ed5ba1c2644a29aa12b5136174ef7330d9974b1c25b37c373966876dac8e288b", func := "loop.example/pub-g01458/laws.FnClassMask", spec := "fnClassMask", apart := false, narrowed := true }
def FnClassMaskUptoSaid : Prop := fnClassMaskUptoRow.holds Try.pinned (OpenSpec.upto fnClassMaskSpec)

/-- 'laws.FnClassMove', WHERE WHAT IT READS IS OF BULK AT MOST 1048576: true; the input reads as it did. -/
def fnClassMoveUptoRow : OpenClaim := { program := "ytfjegjdphfppkaa", sum := "ed5ba1c2644a29aa12b5136174ef7330d9974b1c25b37c373966876dac8e288b", func := "loop.example/pub-g01458/laws.FnClassMove", spec := "fnClassMove", apart := false, narrowed := true }
def FnClassMoveUptoSaid : Prop := fnClassMoveUptoRow.holds Try.pinned (OpenSpec.upto fnClassMoveSpec)

/-- 'laws.FnClassWide', WHERE WHAT IT READS IS OF BULK AT MOST 1048576: true; the input reads as it did. -/
def fnClassWideUptoRow : OpenClaim := { program := "ytfjegjdphfppkaa", sum := "ed5ba1c2644a29aa12b5136174ef7330d9974b1c25b37c373966876dac8e288b", func := "loop.example/pub-g01458/laws.FnClassWide", spec := "fnClassWide", apart := false, narrowed := true }
def FnClassWideUptoSaid : Prop := fnClassWideUptoRow.holds Try.pinned (OpenSpec.upto fnClassWideSpec)

/-- 'laws.FnClassZero', WHERE WHAT IT READS IS OF BULK AT MOST 1048576: true; the input reads as it did. -/
def fnClassZeroUptoRow : OpenClaim := { program := "ytfjegjdphfppkaa", sum := "ed5ba1c2644a29aa12b5136174ef7330d9974b1c25b37c373966876dac8e288b", func := "loop.example/pub-g01458/laws.FnClassZero", spec := "fnClassZero", apart := false, narrowed := true }
def FnClassZeroUptoSaid : Prop := fnClassZeroUptoRow.holds Try.pinned (OpenSpec.upto fnClassZeroSpec)

end Rows
end Go.Proofs.Ytfjegjdphfppkaa
