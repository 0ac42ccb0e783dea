/-
  No cell of these rows narrows 'for every input' (looked for: loops, veiled, ifaces, maps, wideKeys, modest, calm, conditions, laid).
  DERIVED. THE GIVEN ROWS OF THIS SEAT. 11 by the template 'for every input the law returns true; each argument reads behind the call as it read before'; 0 by the template 'total and deterministic' (their statements: YtjlanmoainaedaaTotals.lean).
  GIVEN WITH THE SEED: the statements are not yours to turn. If you find one false, say at which input.
  Laid BY PROGRAM, IN A SANDBOX (cutbox-rows.mjs): the forced cells as the released guide's own fill.sh prints them over the translation d95c1efd79242ac4… (all of the seat's roots in one cut). By AI agents, Wed Nov 11 2026. No macro, syntax, notation, axiom, sorry.
-/
import Derived.Test.YtjlanmoainaedaaChecked
import GoSem.Claim
import GoSem.ClaimJoined
import GoSem.ClaimMapViews
import Derived.JoinedTies
import Derived.KernelRfl
namespace Go.Proofs.Ytjlanmoainaedaa
/- THE CELL 'sum', in the pinned program and in every row, IS THE sha256 OF THE DUMP (.gsa) THAT YtjlanmoainaedaaProg.lean LOADS. Nothing in Lean hashes anything: it is a label: what it is worth is what the hold of that sum in a sandbox is worth. -/
noncomputable def Try.pinned : Pinned := { name := "ytjlanmoainaedaa", sum := "d95c1efd79242ac44d1317382765da3690cf96a4ec9a0dddaa5bbd01021106d6", checked := Try.checked }
namespace Rows
def none {H : Type} : Left H := { results := [], args := [] }

/-- 'laws.FnAddcon2': WHATEVER THE INPUT: true; the input reads as it did. -/
def fnAddcon2Spec : ChangeSpec := { name := "fnAddcon2", fn := fun _ => fun
  | [d] => { results := [.lit (.bool true)], args := [d] }
  | _ => none }
def fnAddcon2Row : OpenClaim := { program := "ytjlanmoainaedaa", sum := "d95c1efd79242ac44d1317382765da3690cf96a4ec9a0dddaa5bbd01021106d6", func := "loop.example/pub-g01458/laws.FnAddcon2", spec := "fnAddcon2", apart := false }
def FnAddcon2Said : Prop := fnAddcon2Row.holds Try.pinned (OpenSpec.ofChange fnAddcon2Spec)

/-- ITS FALSE NEIGHBOUR: 'it returns false'. Refute it at one input. -/
def fnAddcon2Wrong : ChangeSpec := { name := "fnAddcon2", fn := fun _ => fun
  | [d] => { results := [.lit (.bool false)], args := [d] }
  | _ => none }
def FnAddcon2WrongFalsely : Prop := fnAddcon2Row.holds Try.pinned (OpenSpec.ofChange fnAddcon2Wrong)

/-- 'laws.FnAddconSum': WHATEVER THE INPUT: true; the input reads as it did. -/
def fnAddconSumSpec : ChangeSpec := { name := "fnAddconSum", fn := fun _ => fun
  | [d1, d2] => { results := [.lit (.bool true)], args := [d1, d2] }
  | _ => none }
def fnAddconSumRow : OpenClaim := { program := "ytjlanmoainaedaa", sum := "d95c1efd79242ac44d1317382765da3690cf96a4ec9a0dddaa5bbd01021106d6", func := "loop.example/pub-g01458/laws.FnAddconSum", spec := "fnAddconSum", apart := false }
def FnAddconSumSaid : Prop := fnAddconSumRow.holds Try.pinned (OpenSpec.ofChange fnAddconSumSpec)

/-- ITS FALSE NEIGHBOUR: 'it returns false'. Refute it at one input. -/
def fnAddconSumWrong : ChangeSpec := { name := "fnAddconSum", fn := fun _ => fun
  | [d1, d2] => { results := [.lit (.bool false)], args := [d1, d2] }
  | _ => none }
def FnAddconSumWrongFalsely : Prop := fnAddconSumRow.holds Try.pinned (OpenSpec.ofChange fnAddconSumWrong)

/-- 'laws.FnAddcon': WHATEVER THE INPUT: true; the input reads as it did. -/
def fnAddconSpec : ChangeSpec := { name := "fnAddcon", fn := fun _ => fun
  | [d] => { results := [.lit (.bool true)], args := [d] }
  | _ => none }
def fnAddconRow : OpenClaim := { program := "ytjlanmoainaedaa", sum := "d95c1efd79242ac44d1317382765da3690cf96a4ec9a0dddaa5bbd01021106d6", func := "loop.example/pub-g01458/laws.FnAddcon", spec := "fnAddcon", apart := false }
def FnAddconSaid : Prop := fnAddconRow.holds Try.pinned (OpenSpec.ofChange fnAddconSpec)

/-- ITS FALSE NEIGHBOUR: 'it returns false'. Refute it at one input. -/
def fnAddconWrong : ChangeSpec := { name := "fnAddcon", fn := fun _ => fun
  | [d] => { results := [.lit (.bool false)], args := [d] }
  | _ => none }
def FnAddconWrongFalsely : Prop := fnAddconRow.holds Try.pinned (OpenSpec.ofChange fnAddconWrong)

/-- 'laws.FnAddconMade': WHATEVER THE INPUT: true; the input reads as it did. -/
def fnAddconMadeSpec : ChangeSpec := { name := "fnAddconMade", fn := fun _ => fun
  | [d] => { results := [.lit (.bool true)], args := [d] }
  | _ => none }
def fnAddconMadeRow : OpenClaim := { program := "ytjlanmoainaedaa", sum := "d95c1efd79242ac44d1317382765da3690cf96a4ec9a0dddaa5bbd01021106d6", func := "loop.example/pub-g01458/laws.FnAddconMade", spec := "fnAddconMade", apart := false }
def FnAddconMadeSaid : Prop := fnAddconMadeRow.holds Try.pinned (OpenSpec.ofChange fnAddconMadeSpec)

/-- ITS FALSE NEIGHBOUR: 'it returns false'. Refute it at one input. -/
def fnAddconMadeWrong : ChangeSpec := { name := "fnAddconMade", fn := fun _ => fun
  | [d] => { results := [.lit (.bool false)], args := [d] }
  | _ => none }
def FnAddconMadeWrongFalsely : Prop := fnAddconMadeRow.holds Try.pinned (OpenSpec.ofChange fnAddconMadeWrong)

/-- 'laws.FnAddconBoth': WHATEVER THE INPUT: true; the input reads as it did. -/
def fnAddconBothSpec : ChangeSpec := { name := "fnAddconBoth", fn := fun _ => fun
  | [d] => { results := [.lit (.bool true)], args := [d] }
  | _ => none }
def fnAddconBothRow : OpenClaim := { program := "ytjlanmoainaedaa", sum := "d95c1efd79242ac44d1317382765da3690cf96a4ec9a0dddaa5bbd01021106d6", func := "loop.example/pub-g01458/laws.FnAddconBoth", spec := "fnAddconBoth", apart := false }
def FnAddconBothSaid : Prop := fnAddconBothRow.holds Try.pinned (OpenSpec.ofChange fnAddconBothSpec)

/-- ITS FALSE NEIGHBOUR: 'it returns false'. Refute it at one input. -/
def fnAddconBothWrong : ChangeSpec := { name := "fnAddconBoth", fn := fun _ => fun
  | [d] => { results := [.lit (.bool false)], args := [d] }
  | _ => none }
def FnAddconBothWrongFalsely : Prop := fnAddconBothRow.holds Try.pinned (OpenSpec.ofChange fnAddconBothWrong)

/-- 'laws.FnOnes': WHATEVER THE INPUT: true; the input reads as it did. -/
def fnOnesSpec : ChangeSpec := { name := "fnOnes", fn := fun _ => fun
  | [d] => { results := [.lit (.bool true)], args := [d] }
  | _ => none }
def fnOnesRow : OpenClaim := { program := "ytjlanmoainaedaa", sum := "d95c1efd79242ac44d1317382765da3690cf96a4ec9a0dddaa5bbd01021106d6", func := "loop.example/pub-g01458/laws.FnOnes", spec := "fnOnes", apart := false }
def FnOnesSaid : Prop := fnOnesRow.holds Try.pinned (OpenSpec.ofChange fnOnesSpec)

/-- ITS FALSE NEIGHBOUR: 'it returns false'. Refute it at one input. -/
def fnOnesWrong : ChangeSpec := { name := "fnOnes", fn := fun _ => fun
  | [d] => { results := [.lit (.bool false)], args := [d] }
  | _ => none }
def FnOnesWrongFalsely : Prop := fnOnesRow.holds Try.pinned (OpenSpec.ofChange fnOnesWrong)

/-- 'laws.FnOnesMade': WHATEVER THE INPUT: true; the input reads as it did. -/
def fnOnesMadeSpec : ChangeSpec := { name := "fnOnesMade", fn := fun _ => fun
  | [d1, d2] => { results := [.lit (.bool true)], args := [d1, d2] }
  | _ => none }
def fnOnesMadeRow : OpenClaim := { program := "ytjlanmoainaedaa", sum := "d95c1efd79242ac44d1317382765da3690cf96a4ec9a0dddaa5bbd01021106d6", func := "loop.example/pub-g01458/laws.FnOnesMade", spec := "fnOnesMade", apart := false }
def FnOnesMadeSaid : Prop := fnOnesMadeRow.holds Try.pinned (OpenSpec.ofChange fnOnesMadeSpec)

/-- ITS FALSE NEIGHBOUR: 'it returns false'. Refute it at one input. -/
def fnOnesMadeWrong : ChangeSpec := { name := "fnOnesMade", fn := fun _ => fun
  | [d1, d2] => { results := [.lit (.bool false)], args := [d1, d2] }
  | _ => none }
def FnOnesMadeWrongFalsely : Prop := fnOnesMadeRow.holds Try.pinned (OpenSpec.ofChange fnOnesMadeWrong)

/-- 'laws.FnOnesParted': WHATEVER THE INPUT: true; the input reads as it did. -/
def fnOnesPartedSpec : ChangeSpec := { name := "fnOnesParted", fn := fun _ => fun
  | [d1, d2, d3, d4] => { results := [.lit (.bool true)], args := [d1, d2, d3, d4] }
  | _ => none }
def fnOnesPartedRow : OpenClaim := { program := "ytjlanmoainaedaa", sum := "d95c1efd79242ac44d1317382765da3690cf96a4ec9a0dddaa5bbd01021106d6", func := "loop.example/pub-g01458/laws.FnOnesParted", spec := "fnOnesParted", apart := false }
def FnOnesPartedSaid : Prop := fnOnesPartedRow.holds Try.pinned (OpenSpec.ofChange fnOnesPartedSpec)

/-- ITS FALSE NEIGHBOUR: 'it returns false'. Refute it at one input. -/
def fnOnesPartedWrong : ChangeSpec := { name := "fnOnesParted", fn := fun _ => fun
  | [d1, d2, d3, d4] => { results := [.lit (.bool false)], args := [d1, d2, d3, d4] }
  | _ => none }
def FnOnesPartedWrongFalsely : Prop := fnOnesPartedRow.holds Try.pinned (OpenSpec.ofChange fnOnesPartedWrong)

/-- 'laws.FnMove': WHATEVER THE INPUT: true; the input reads as it did. -/
def fnMoveSpec : ChangeSpec := { name := "fnMove", fn := fun _ => fun
  | [d] => { results := [.lit (.bool true)], args := [d] }
  | _ => none }
def fnMoveRow : OpenClaim := { program := "ytjlanmoainaedaa", sum := "d95c1efd79242ac44d1317382765da3690cf96a4ec9a0dddaa5bbd01021106d6", func := "loop.example/pub-g01458/laws.FnMove", spec := "fnMove", apart := false }
def FnMoveSaid : Prop := fnMoveRow.holds Try.pinned (OpenSpec.ofChange fnMoveSpec)

/-- ITS FALSE NEIGHBOUR: 'it returns false'. Refute it at one input. -/
def fnMoveWrong : ChangeSpec := { name := "fnMove", fn := fun _ => fun
  | [d] => { results := [.lit (.bool false)], args := [d] }
  | _ => none }
def FnMoveWrongFalsely : Prop := fnMoveRow.holds Try.pinned (OpenSpec.ofChange fnMoveWrong)

/-- 'laws.FnMoveBack': WHATEVER THE INPUT: true; the input reads as it did. -/
def fnMoveBackSpec : ChangeSpec := { name := "fnMoveBack", fn := fun _ => fun
  | [d] => { results := [.lit (.bool true)], args := [d] }
  | _ => none }
def fnMoveBackRow : OpenClaim := { program := "ytjlanmoainaedaa", sum := "d95c1efd79242ac44d1317382765da3690cf96a4ec9a0dddaa5bbd01021106d6", func := "loop.example/pub-g01458/laws.FnMoveBack", spec := "fnMoveBack", apart := false }
def FnMoveBackSaid : Prop := fnMoveBackRow.holds Try.pinned (OpenSpec.ofChange fnMoveBackSpec)

/-- ITS FALSE NEIGHBOUR: 'it returns false'. Refute it at one input. -/
def fnMoveBackWrong : ChangeSpec := { name := "fnMoveBack", fn := fun _ => fun
  | [d] => { results := [.lit (.bool false)], args := [d] }
  | _ => none }
def FnMoveBackWrongFalsely : Prop := fnMoveBackRow.holds Try.pinned (OpenSpec.ofChange fnMoveBackWrong)

/-- 'laws.FnMoveMade': WHATEVER THE INPUT: true; the input reads as it did. -/
def fnMoveMadeSpec : ChangeSpec := { name := "fnMoveMade", fn := fun _ => fun
  | [d1, d2] => { results := [.lit (.bool true)], args := [d1, d2] }
  | _ => none }
def fnMoveMadeRow : OpenClaim := { program := "ytjlanmoainaedaa", sum := "d95c1efd79242ac44d1317382765da3690cf96a4ec9a0dddaa5bbd01021106d6", func := "loop.example/pub-g01458/laws.FnMoveMade", spec := "fnMoveMade", apart := false }
def FnMoveMadeSaid : Prop := fnMoveMadeRow.holds Try.pinned (OpenSpec.ofChange fnMoveMadeSpec)

/-- ITS FALSE NEIGHBOUR: 'it returns false'. Refute it at one input. -/
def fnMoveMadeWrong : ChangeSpec := { name := "fnMoveMade", fn := fun _ => fun
  | [d1, d2] => { results := [.lit (.bool false)], args := [d1, d2] }
  | _ => none }
def FnMoveMadeWrongFalsely : Prop := fnMoveMadeRow.holds Try.pinned (OpenSpec.ofChange fnMoveMadeWrong)

/- THE SECOND FORM. 'bulk': how many values and letters a reading holds, each counted each time it is reached (what is shared counts as often as it is met; a slice's spare places count too). A statement '..UptoSaid' is the law's where the arguments, and the package variables that the reading takes, are together of bulk at most 1048576: NARROWER than '..Said'. Prove '..Said' where nothing that the law and all that it calls make is longer than what came in: it says more and counts as full. Else prove '..UptoSaid'. A law counts once. -/
mutual
def uptoBulk {H : Type} : DataW H → Nat
  | .lit (.string bytes) => bytes.length + 1
  | .lit _ => 1
  | .nil => 1
  | .ptr d => uptoBulk d + 1
  | .slice elems spare => uptoBulkAll elems + uptoBulkAll spare + 1
  | .agg parts => uptoBulkAll parts + 1
  | .iface _ d => uptoBulk d + 1
  | .map entries => uptoBulkEntries entries + 1
  | .held _ => 1
def uptoBulkAll {H : Type} : List (DataW H) → Nat
  | [] => 0
  | d :: r => uptoBulk d + uptoBulkAll r
def uptoBulkEntries {H : Type} : List (Lit × DataW H) → Nat
  | [] => 0
  | x :: r => uptoBulkEntry x + uptoBulkEntries r
def uptoBulkEntry {H : Type} : Lit × DataW H → Nat
  | (.string bytes, d) => bytes.length + uptoBulk d + 1
  | (_, d) => uptoBulk d + 1
 end
def uptoSmall : (H : Type) → List (DataW H) → Bool := fun _ ds => decide (uptoBulkAll ds ≤ 1048576)
def OpenSpec.upto (s : _root_.Go.ChangeSpec) : _root_.Go.OpenSpec := { _root_.Go.OpenSpec.ofChange s with cond := some uptoSmall }

/-- 'laws.FnAddcon2', WHERE WHAT IT READS IS OF BULK AT MOST 1048576: true; the input reads as it did. -/
def fnAddcon2UptoRow : OpenClaim := { program := "ytjlanmoainaedaa", sum := "d95c1efd79242ac44d1317382765da3690cf96a4ec9a0dddaa5bbd01021106d6", func := "loop.example/pub-g01458/laws.FnAddcon2", spec := "fnAddcon2", apart := false, narrowed := true }
def FnAddcon2UptoSaid : Prop := fnAddcon2UptoRow.holds Try.pinned (OpenSpec.upto fnAddcon2Spec)

/-- 'laws.FnAddconSum', WHERE WHAT IT READS IS OF BULK AT MOST 1048576: true; the input reads as it did. -/
def fnAddconSumUptoRow : OpenClaim := { program := "ytjlanmoainaedaa", sum := "d95c1efd79242ac44d1317382765da3690cf96a4ec9a0dddaa5bbd01021106d6", func := "loop.example/pub-g01458/laws.FnAddconSum", spec := "fnAddconSum", apart := false, narrowed := true }
def FnAddconSumUptoSaid : Prop := fnAddconSumUptoRow.holds Try.pinned (OpenSpec.upto fnAddconSumSpec)

/-- 'laws.FnAddcon', WHERE WHAT IT READS IS OF BULK AT MOST 1048576: true; the input reads as it did. -/
def fnAddconUptoRow : OpenClaim := { program := "ytjlanmoainaedaa", sum := "d95c1efd79242ac44d1317382765da3690cf96a4ec9a0dddaa5bbd01021106d6", func := "loop.example/pub-g01458/laws.FnAddcon", spec := "fnAddcon", apart := false, narrowed := true }
def FnAddconUptoSaid : Prop := fnAddconUptoRow.holds Try.pinned (OpenSpec.upto fnAddconSpec)

/-- 'laws.FnAddconMade', WHERE WHAT IT READS IS OF BULK AT MOST 1048576: true; the input reads as it did. -/
def fnAddconMadeUptoRow : OpenClaim := { program := "ytjlanmoainaedaa", sum := "d95c1efd79242ac44d1317382765da3690cf96a4ec9a0dddaa5bbd01021106d6", func := "loop.example/pub-g01458/laws.FnAddconMade", spec := "fnAddconMade", apart := false, narrowed := true }
def FnAddconMadeUptoSaid : Prop := fnAddconMadeUptoRow.holds Try.pinned (OpenSpec.upto fnAddconMadeSpec)

/-- 'laws.FnAddconBoth', WHERE WHAT IT READS IS OF BULK AT MOST 1048576: true; the input reads as it did. -/
def fnAddconBothUptoRow : OpenClaim := { program := "ytjlanmoainaedaa", sum := "d95c1efd79242ac44d1317382765da3690cf96a4ec9a0dddaa5bbd01021106d6", func := "loop.example/pub-g01458/laws.FnAddconBoth", spec := "fnAddconBoth", apart := false, narrowed := true }
def FnAddconBothUptoSaid : Prop := fnAddconBothUptoRow.holds Try.pinned (OpenSpec.upto fnAddconBothSpec)

/-- 'laws.FnOnes', WHERE WHAT IT READS IS OF BULK AT MOST 1048576: true; the input reads as it did. -/
def fnOnesUptoRow : OpenClaim := { program := "ytjlanmoainaedaa", sum := "d95c1efd79242ac44d1317382765da3690cf96a4ec9a0dddaa5bbd01021106d6", func := "loop.example/pub-g01458/laws.FnOnes", spec := "fnOnes", apart := false, narrowed := true }
def FnOnesUptoSaid : Prop := fnOnesUptoRow.holds Try.pinned (OpenSpec.upto fnOnesSpec)

/-- 'laws.FnOnesMade', WHERE WHAT IT READS IS OF BULK AT MOST 1048576: true; the input reads as it did. -/
def fnOnesMadeUptoRow : OpenClaim := { program := "ytjlanmoainaedaa", sum := "d95c1efd79242ac44d1317382765da3690cf96a4ec9a0dddaa5bbd01021106d6", func := "loop.example/pub-g01458/laws.FnOnesMade", spec := "fnOnesMade", apart := false, narrowed := true }
def FnOnesMadeUptoSaid : Prop := fnOnesMadeUptoRow.holds Try.pinned (OpenSpec.upto fnOnesMadeSpec)

/-- 'laws.FnOnesParted', WHERE WHAT IT READS IS OF BULK AT MOST 1048576: true; the input reads as it did. -/
def fnOnesPartedUptoRow : OpenClaim := { program := "ytjlanmoainaedaa", sum := "d95c1efd79242ac44d1317382765da3690cf96a4ec9a0dddaa5bbd01021106d6", func := "loop.example/pub-g01458/laws.FnOnesParted", spec := "fnOnesParted", apart := false, narrowed := true }
def FnOnesPartedUptoSaid : Prop := fnOnesPartedUptoRow.holds Try.pinned (OpenSpec.upto fnOnesPartedSpec)

/-- 'laws.FnMove', WHERE WHAT IT READS IS OF BULK AT MOST 1048576: true; the input reads as it did. -/
def fnMoveUptoRow : OpenClaim := { program := "ytjlanmoainaedaa", sum := "d95c1efd79242ac44d1317382765da3690cf96a4ec9a0dddaa5bbd01021106d6", func := "loop.example/pub-g01458/laws.FnMove", spec := "fnMove", apart := false, narrowed := true }
def FnMoveUptoSaid : Prop := fnMoveUptoRow.holds Try.pinned (OpenSpec.upto fnMoveSpec)

/-- 'laws.FnMoveBack', WHERE WHAT IT READS IS OF BULK AT MOST 1048576: true; the input reads as it did. -/
def fnMoveBackUptoRow : OpenClaim := { program := "ytjlanmoainaedaa", sum := "d95c1efd79242ac44d1317382765da3690cf96a4ec9a0dddaa5bbd01021106d6", func := "loop.example/pub-g01458/laws.FnMoveBack", spec := "fnMoveBack", apart := false, narrowed := true }
def FnMoveBackUptoSaid : Prop := fnMoveBackUptoRow.holds Try.pinned (OpenSpec.upto fnMoveBackSpec)

/-- 'laws.FnMoveMade', WHERE WHAT IT READS IS OF BULK AT MOST 1048576: true; the input reads as it did. -/
def fnMoveMadeUptoRow : OpenClaim := { program := "ytjlanmoainaedaa", sum := "d95c1efd79242ac44d1317382765da3690cf96a4ec9a0dddaa5bbd01021106d6", func := "loop.example/pub-g01458/laws.FnMoveMade", spec := "fnMoveMade", apart := false, narrowed := true }
def FnMoveMadeUptoSaid : Prop := fnMoveMadeUptoRow.holds Try.pinned (OpenSpec.upto fnMoveMadeSpec)

end Rows
end Go.Proofs.Ytjlanmoainaedaa
