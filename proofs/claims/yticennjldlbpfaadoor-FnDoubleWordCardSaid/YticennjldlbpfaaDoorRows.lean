/-
  NARROWER THAN 'FOR EVERY INPUT', by the rows' own cells (each row's printed sentence says how): FnWord: laid · FnWordInverted: laid · FnWordMade: laid · FnWordOne: laid · FnDouble: laid · FnDoubleMade: laid · FnDoubleWord: laid.
  DERIVED. THE GIVEN ROWS OF THIS SEAT. 7 by the template 'for every input the law returns true; each argument reads behind the call as it read before'; 0 by the template 'total and deterministic' (their statements: YticennjldlbpfaaDoorTotals.lean).
  GIVEN WITH THE SEED: the statements are not yours to turn. If you find one false, say at which input.
  Laid BY PROGRAM, IN A SANDBOX (cutbox-rows.mjs): the forced cells as the released guide's own fill.sh prints them over the translation 143604c9be636253… (all of the seat's roots in one cut). By AI agents, Wed Nov 11 2026. No macro, syntax, notation, axiom, sorry.
-/
import Derived.Test.YticennjldlbpfaaDoorChecked
import GoSem.Claim
import GoSem.ClaimJoined
import GoSem.ClaimMapViews
import Derived.JoinedTies
import Derived.KernelRfl
namespace Go.Proofs.YticennjldlbpfaaDoor
/- THE CELL 'sum', in the pinned program and in every row, IS THE sha256 OF THE DUMP (.gsa) THAT YticennjldlbpfaaDoorProg.lean LOADS. Nothing in Lean hashes anything: it is a label: what it is worth is what the hold of that sum in a sandbox is worth. -/
noncomputable def Tryd.pinned : Pinned := { name := "yticennjldlbpfaadoor", sum := "143604c9be636253bd5acf2efad2843fe38b3c61e7eeab31e26eac3585ed7112", checked := Tryd.checked }
namespace Rows
def none {H : Type} : Left H := { results := [], args := [] }

/- WHAT THE LISTED PACKAGE-LEVEL VARIABLES READ AS WHEN THE CALL BEGINS. Each datum BY PROGRAM (the guide's laid-datum.mjs) off the statement by which the dump's own 'gosem.cut.vars' lays the variable. In a bare row this is a premise. The card (YticennjldlbpfaaDoorCards.lean) ties it to the program's text. -/
def laid_math_bits_deBruijn32tab {H : Type} : DataW H := .agg [.lit (.int .u8 0), .lit (.int .u8 1), .lit (.int .u8 28), .lit (.int .u8 2), .lit (.int .u8 29), .lit (.int .u8 14), .lit (.int .u8 24), .lit (.int .u8 3), .lit (.int .u8 30), .lit (.int .u8 22), .lit (.int .u8 20), .lit (.int .u8 15), .lit (.int .u8 25), .lit (.int .u8 17), .lit (.int .u8 4), .lit (.int .u8 8), .lit (.int .u8 31), .lit (.int .u8 27), .lit (.int .u8 13), .lit (.int .u8 23), .lit (.int .u8 21), .lit (.int .u8 19), .lit (.int .u8 16), .lit (.int .u8 7), .lit (.int .u8 26), .lit (.int .u8 12), .lit (.int .u8 18), .lit (.int .u8 6), .lit (.int .u8 11), .lit (.int .u8 5), .lit (.int .u8 10), .lit (.int .u8 9)]
def laid_math_bits_deBruijn64tab {H : Type} : DataW H := .agg [.lit (.int .u8 0), .lit (.int .u8 1), .lit (.int .u8 56), .lit (.int .u8 2), .lit (.int .u8 57), .lit (.int .u8 49), .lit (.int .u8 28), .lit (.int .u8 3), .lit (.int .u8 61), .lit (.int .u8 58), .lit (.int .u8 42), .lit (.int .u8 50), .lit (.int .u8 38), .lit (.int .u8 29), .lit (.int .u8 17), .lit (.int .u8 4), .lit (.int .u8 62), .lit (.int .u8 47), .lit (.int .u8 59), .lit (.int .u8 36), .lit (.int .u8 45), .lit (.int .u8 43), .lit (.int .u8 51), .lit (.int .u8 22), .lit (.int .u8 53), .lit (.int .u8 39), .lit (.int .u8 33), .lit (.int .u8 30), .lit (.int .u8 24), .lit (.int .u8 18), .lit (.int .u8 12), .lit (.int .u8 5), .lit (.int .u8 63), .lit (.int .u8 55), .lit (.int .u8 48), .lit (.int .u8 27), .lit (.int .u8 60), .lit (.int .u8 41), .lit (.int .u8 37), .lit (.int .u8 16), .lit (.int .u8 46), .lit (.int .u8 35), .lit (.int .u8 44), .lit (.int .u8 21), .lit (.int .u8 52), .lit (.int .u8 32), .lit (.int .u8 23), .lit (.int .u8 11), .lit (.int .u8 54), .lit (.int .u8 26), .lit (.int .u8 40), .lit (.int .u8 15), .lit (.int .u8 34), .lit (.int .u8 20), .lit (.int .u8 31), .lit (.int .u8 10), .lit (.int .u8 25), .lit (.int .u8 14), .lit (.int .u8 19), .lit (.int .u8 9), .lit (.int .u8 13), .lit (.int .u8 8), .lit (.int .u8 7), .lit (.int .u8 6)]

/-- 'laws.FnWord': WHATEVER THE INPUT: true; the input reads as it did. -/
def fnWordSpec : ChangeSpec := { name := "fnWord", fn := fun _ => fun
  | [d] => { results := [.lit (.bool true)], args := [d] }
  | _ => none }
def fnWordRow : OpenClaim := { program := "yticennjldlbpfaadoor", sum := "143604c9be636253bd5acf2efad2843fe38b3c61e7eeab31e26eac3585ed7112", func := "loop.example/pub-g01458/laws.FnWord", spec := "fnWord", named := ["math/bits.deBruijn32tab"], apart := false, laid := [("math/bits.deBruijn32tab", laid_math_bits_deBruijn32tab)] }
def FnWordSaid : Prop := fnWordRow.holds Tryd.pinned (OpenSpec.ofChange fnWordSpec)

/-- ITS FALSE NEIGHBOUR: 'it returns false'. Refute it at one input. -/
def fnWordWrong : ChangeSpec := { name := "fnWord", fn := fun _ => fun
  | [d] => { results := [.lit (.bool false)], args := [d] }
  | _ => none }
def FnWordWrongFalsely : Prop := fnWordRow.holds Tryd.pinned (OpenSpec.ofChange fnWordWrong)

/-- 'laws.FnWordInverted': WHATEVER THE INPUT: true; the input reads as it did. -/
def fnWordInvertedSpec : ChangeSpec := { name := "fnWordInverted", fn := fun _ => fun
  | [d] => { results := [.lit (.bool true)], args := [d] }
  | _ => none }
def fnWordInvertedRow : OpenClaim := { program := "yticennjldlbpfaadoor", sum := "143604c9be636253bd5acf2efad2843fe38b3c61e7eeab31e26eac3585ed7112", func := "loop.example/pub-g01458/laws.FnWordInverted", spec := "fnWordInverted", named := ["math/bits.deBruijn32tab"], apart := false, laid := [("math/bits.deBruijn32tab", laid_math_bits_deBruijn32tab)] }
def FnWordInvertedSaid : Prop := fnWordInvertedRow.holds Tryd.pinned (OpenSpec.ofChange fnWordInvertedSpec)

/-- ITS FALSE NEIGHBOUR: 'it returns false'. Refute it at one input. -/
def fnWordInvertedWrong : ChangeSpec := { name := "fnWordInverted", fn := fun _ => fun
  | [d] => { results := [.lit (.bool false)], args := [d] }
  | _ => none }
def FnWordInvertedWrongFalsely : Prop := fnWordInvertedRow.holds Tryd.pinned (OpenSpec.ofChange fnWordInvertedWrong)

/-- 'laws.FnWordMade': WHATEVER THE INPUT: true; the input reads as it did. -/
def fnWordMadeSpec : ChangeSpec := { name := "fnWordMade", fn := fun _ => fun
  | [d1, d2] => { results := [.lit (.bool true)], args := [d1, d2] }
  | _ => none }
def fnWordMadeRow : OpenClaim := { program := "yticennjldlbpfaadoor", sum := "143604c9be636253bd5acf2efad2843fe38b3c61e7eeab31e26eac3585ed7112", func := "loop.example/pub-g01458/laws.FnWordMade", spec := "fnWordMade", named := ["math/bits.deBruijn32tab"], apart := false, laid := [("math/bits.deBruijn32tab", laid_math_bits_deBruijn32tab)] }
def FnWordMadeSaid : Prop := fnWordMadeRow.holds Tryd.pinned (OpenSpec.ofChange fnWordMadeSpec)

/-- ITS FALSE NEIGHBOUR: 'it returns false'. Refute it at one input. -/
def fnWordMadeWrong : ChangeSpec := { name := "fnWordMade", fn := fun _ => fun
  | [d1, d2] => { results := [.lit (.bool false)], args := [d1, d2] }
  | _ => none }
def FnWordMadeWrongFalsely : Prop := fnWordMadeRow.holds Tryd.pinned (OpenSpec.ofChange fnWordMadeWrong)

/-- 'laws.FnWordOne': WHATEVER THE INPUT: true; the input reads as it did. -/
def fnWordOneSpec : ChangeSpec := { name := "fnWordOne", fn := fun _ => fun
  | [d] => { results := [.lit (.bool true)], args := [d] }
  | _ => none }
def fnWordOneRow : OpenClaim := { program := "yticennjldlbpfaadoor", sum := "143604c9be636253bd5acf2efad2843fe38b3c61e7eeab31e26eac3585ed7112", func := "loop.example/pub-g01458/laws.FnWordOne", spec := "fnWordOne", named := ["math/bits.deBruijn32tab"], apart := false, laid := [("math/bits.deBruijn32tab", laid_math_bits_deBruijn32tab)] }
def FnWordOneSaid : Prop := fnWordOneRow.holds Tryd.pinned (OpenSpec.ofChange fnWordOneSpec)

/-- ITS FALSE NEIGHBOUR: 'it returns false'. Refute it at one input. -/
def fnWordOneWrong : ChangeSpec := { name := "fnWordOne", fn := fun _ => fun
  | [d] => { results := [.lit (.bool false)], args := [d] }
  | _ => none }
def FnWordOneWrongFalsely : Prop := fnWordOneRow.holds Tryd.pinned (OpenSpec.ofChange fnWordOneWrong)

/-- 'laws.FnDouble': WHATEVER THE INPUT: true; the input reads as it did. -/
def fnDoubleSpec : ChangeSpec := { name := "fnDouble", fn := fun _ => fun
  | [d] => { results := [.lit (.bool true)], args := [d] }
  | _ => none }
def fnDoubleRow : OpenClaim := { program := "yticennjldlbpfaadoor", sum := "143604c9be636253bd5acf2efad2843fe38b3c61e7eeab31e26eac3585ed7112", func := "loop.example/pub-g01458/laws.FnDouble", spec := "fnDouble", named := ["math/bits.deBruijn64tab"], apart := false, laid := [("math/bits.deBruijn64tab", laid_math_bits_deBruijn64tab)] }
def FnDoubleSaid : Prop := fnDoubleRow.holds Tryd.pinned (OpenSpec.ofChange fnDoubleSpec)

/-- ITS FALSE NEIGHBOUR: 'it returns false'. Refute it at one input. -/
def fnDoubleWrong : ChangeSpec := { name := "fnDouble", fn := fun _ => fun
  | [d] => { results := [.lit (.bool false)], args := [d] }
  | _ => none }
def FnDoubleWrongFalsely : Prop := fnDoubleRow.holds Tryd.pinned (OpenSpec.ofChange fnDoubleWrong)

/-- 'laws.FnDoubleMade': WHATEVER THE INPUT: true; the input reads as it did. -/
def fnDoubleMadeSpec : ChangeSpec := { name := "fnDoubleMade", fn := fun _ => fun
  | [d1, d2] => { results := [.lit (.bool true)], args := [d1, d2] }
  | _ => none }
def fnDoubleMadeRow : OpenClaim := { program := "yticennjldlbpfaadoor", sum := "143604c9be636253bd5acf2efad2843fe38b3c61e7eeab31e26eac3585ed7112", func := "loop.example/pub-g01458/laws.FnDoubleMade", spec := "fnDoubleMade", named := ["math/bits.deBruijn64tab"], apart := false, laid := [("math/bits.deBruijn64tab", laid_math_bits_deBruijn64tab)] }
def FnDoubleMadeSaid : Prop := fnDoubleMadeRow.holds Tryd.pinned (OpenSpec.ofChange fnDoubleMadeSpec)

/-- ITS FALSE NEIGHBOUR: 'it returns false'. Refute it at one input. -/
def fnDoubleMadeWrong : ChangeSpec := { name := "fnDoubleMade", fn := fun _ => fun
  | [d1, d2] => { results := [.lit (.bool false)], args := [d1, d2] }
  | _ => none }
def FnDoubleMadeWrongFalsely : Prop := fnDoubleMadeRow.holds Tryd.pinned (OpenSpec.ofChange fnDoubleMadeWrong)

/-- 'laws.FnDoubleWord': WHATEVER THE INPUT: true; the input reads as it did. -/
def fnDoubleWordSpec : ChangeSpec := { name := "fnDoubleWord", fn := fun _ => fun
  | [d] => { results := [.lit (.bool true)], args := [d] }
  | _ => none }
def fnDoubleWordRow : OpenClaim := { program := "yticennjldlbpfaadoor", sum := "143604c9be636253bd5acf2efad2843fe38b3c61e7eeab31e26eac3585ed7112", func := "loop.example/pub-g01458/laws.FnDoubleWord", spec := "fnDoubleWord", named := ["math/bits.deBruijn32tab", "math/bits.deBruijn64tab"], apart := false, laid := [("math/bits.deBruijn32tab", laid_math_bits_deBruijn32tab), ("math/bits.deBruijn64tab", laid_math_bits_deBruijn64tab)] }
def FnDoubleWordSaid : Prop := fnDoubleWordRow.holds Tryd.pinned (OpenSpec.ofChange fnDoubleWordSpec)

/-- ITS FALSE NEIGHBOUR: 'it returns false'. Refute it at one input. -/
def fnDoubleWordWrong : ChangeSpec := { name := "fnDoubleWord", fn := fun _ => fun
  | [d] => { results := [.lit (.bool false)], args := [d] }
  | _ => none }
def FnDoubleWordWrongFalsely : Prop := fnDoubleWordRow.holds Tryd.pinned (OpenSpec.ofChange fnDoubleWordWrong)

/- THE SECOND FORM. 'bulk': how many values and letters a reading holds, each counted each time it is reached (what is shared counts as often as it is met; a slice's spare places count too). A statement '..UptoSaid' is the law's where the arguments, and the package variables that the reading takes, are together of bulk at most 1048576: NARROWER than '..Said'. Prove '..Said' where nothing that the law and all that it calls make is longer than what came in: it says more and counts as full. Else prove '..UptoSaid'. A law counts once. -/
mutual
def uptoBulk {H : Type} : DataW H → Nat
  | .lit (.string bytes) => bytes.length + 1
  | .lit _ => 1
  | .nil => 1
  | .ptr d => uptoBulk d + 1
  | .slice elems spare => uptoBulkAll elems + uptoBulkAll spare + 1
  | .agg parts => uptoBulkAll parts + 1
  | .iface _ d => uptoBulk d + 1
  | .map entries => uptoBulkEntries entries + 1
  | .held _ => 1
def uptoBulkAll {H : Type} : List (DataW H) → Nat
  | [] => 0
  | d :: r => uptoBulk d + uptoBulkAll r
def uptoBulkEntries {H : Type} : List (Lit × DataW H) → Nat
  | [] => 0
  | x :: r => uptoBulkEntry x + uptoBulkEntries r
def uptoBulkEntry {H : Type} : Lit × DataW H → Nat
  | (.string bytes, d) => bytes.length + uptoBulk d + 1
  | (_, d) => uptoBulk d + 1
 end
def uptoSmall : (H : Type) → List (DataW H) → Bool := fun _ ds => decide (uptoBulkAll ds ≤ 1048576)
def OpenSpec.upto (s : _root_.Go.ChangeSpec) : _root_.Go.OpenSpec := { _root_.Go.OpenSpec.ofChange s with cond := some uptoSmall }

/-- 'laws.FnWord', WHERE WHAT IT READS IS OF BULK AT MOST 1048576: true; the input reads as it did. -/
def fnWordUptoRow : OpenClaim := { program := "yticennjldlbpfaadoor", sum := "143604c9be636253bd5acf2efad2843fe38b3c61e7eeab31e26eac3585ed7112", func := "loop.example/pub-g01458/laws.FnWord", spec := "fnWord", named := ["math/bits.deBruijn32tab"], apart := false, laid := [("math/bits.deBruijn32tab", laid_math_bits_deBruijn32tab)], narrowed := true }
def FnWordUptoSaid : Prop := fnWordUptoRow.holds Tryd.pinned (OpenSpec.upto fnWordSpec)

/-- 'laws.FnWordInverted', WHERE WHAT IT READS IS OF BULK AT MOST 1048576: true; the input reads as it did. -/
def fnWordInvertedUptoRow : OpenClaim := { program := "yticennjldlbpfaadoor", sum := "143604c9be636253bd5acf2efad2843fe38b3c61e7eeab31e26eac3585ed7112", func := "loop.example/pub-g01458/laws.FnWordInverted", spec := "fnWordInverted", named := ["math/bits.deBruijn32tab"], apart := false, laid := [("math/bits.deBruijn32tab", laid_math_bits_deBruijn32tab)], narrowed := true }
def FnWordInvertedUptoSaid : Prop := fnWordInvertedUptoRow.holds Tryd.pinned (OpenSpec.upto fnWordInvertedSpec)

/-- 'laws.FnWordMade', WHERE WHAT IT READS IS OF BULK AT MOST 1048576: true; the input reads as it did. -/
def fnWordMadeUptoRow : OpenClaim := { program := "yticennjldlbpfaadoor", sum := "143604c9be636253bd5acf2efad2843fe38b3c61e7eeab31e26eac3585ed7112", func := "loop.example/pub-g01458/laws.FnWordMade", spec := "fnWordMade", named := ["math/bits.deBruijn32tab"], apart := false, laid := [("math/bits.deBruijn32tab", laid_math_bits_deBruijn32tab)], narrowed := true }
def FnWordMadeUptoSaid : Prop := fnWordMadeUptoRow.holds Tryd.pinned (OpenSpec.upto fnWordMadeSpec)

/-- 'laws.FnWordOne', WHERE WHAT IT READS IS OF BULK AT MOST 1048576: true; the input reads as it did. -/
def fnWordOneUptoRow : OpenClaim := { program := "yticennjldlbpfaadoor", sum := "143604c9be636253bd5acf2efad2843fe38b3c61e7eeab31e26eac3585ed7112", func := "loop.example/pub-g01458/laws.FnWordOne", spec := "fnWordOne", named := ["math/bits.deBruijn32tab"], apart := false, laid := [("math/bits.deBruijn32tab", laid_math_bits_deBruijn32tab)], narrowed := true }
def FnWordOneUptoSaid : Prop := fnWordOneUptoRow.holds Tryd.pinned (OpenSpec.upto fnWordOneSpec)

/-- 'laws.FnDouble', WHERE WHAT IT READS IS OF BULK AT MOST 1048576: true; the input reads as it did. -/
def fnDoubleUptoRow : OpenClaim := { program := "yticennjldlbpfaadoor", sum := "143604c9be636253bd5acf2efad2843fe38b3c61e7eeab31e26eac3585ed7112", func := "loop.example/pub-g01458/laws.FnDouble", spec := "fnDouble", named := ["math/bits.deBruijn64tab"], apart := false, laid := [("math/bits.deBruijn64tab", laid_math_bits_deBruijn64tab)], narrowed := true }
def FnDoubleUptoSaid : Prop := fnDoubleUptoRow.holds Tryd.pinned (OpenSpec.upto fnDoubleSpec)

/-- 'laws.FnDoubleMade', WHERE WHAT IT READS IS OF BULK AT MOST 1048576: true; the input reads as it did. -/
def fnDoubleMadeUptoRow : OpenClaim := { program := "yticennjldlbpfaadoor", sum := "143604c9be636253bd5acf2efad2843fe38b3c61e7eeab31e26eac3585ed7112", func := "loop.example/pub-g01458/laws.FnDoubleMade", spec := "fnDoubleMade", named := ["math/bits.deBruijn64tab"], apart := false, laid := [("math/bits.deBruijn64tab", laid_math_bits_deBruijn64tab)], narrowed := true }
def FnDoubleMadeUptoSaid : Prop := fnDoubleMadeUptoRow.holds Tryd.pinned (OpenSpec.upto fnDoubleMadeSpec)

/-- 'laws.FnDoubleWord', WHERE WHAT IT READS IS OF BULK AT MOST 1048576: true; the input reads as it did. -/
def fnDoubleWordUptoRow : OpenClaim := { program := "yticennjldlbpfaadoor", sum := "143604c9be636253bd5acf2efad2843fe38b3c61e7eeab31e26eac3585ed7112", func := "loop.example/pub-g01458/laws.FnDoubleWord", spec := "fnDoubleWord", named := ["math/bits.deBruijn32tab", "math/bits.deBruijn64tab"], apart := false, laid := [("math/bits.deBruijn32tab", laid_math_bits_deBruijn32tab), ("math/bits.deBruijn64tab", laid_math_bits_deBruijn64tab)], narrowed := true }
def FnDoubleWordUptoSaid : Prop := fnDoubleWordUptoRow.holds Tryd.pinned (OpenSpec.upto fnDoubleWordSpec)

end Rows
end Go.Proofs.YticennjldlbpfaaDoor
