/-
  No cell of these rows narrows 'for every input' (looked for: loops, veiled, ifaces, maps, wideKeys, modest, calm, conditions, laid).
  DERIVED. THE GIVEN ROWS OF THIS SEAT. 11 by the template 'for every input the law returns true; each argument reads behind the call as it read before'; 0 by the template 'total and deterministic' (their statements: YtnohdfdjhhmmdaaTotals.lean).
  GIVEN WITH THE SEED: the statements are not yours to turn. If you find one false, say at which input.
  Laid BY PROGRAM, IN A SANDBOX (cutbox-rows.mjs): the forced cells as the released guide's own fill.sh prints them over the translation f1ba22c91e1d5a91… (all of the seat's roots in one cut). By AI agents, Wed Nov 11 2026. No macro, syntax, notation, axiom, sorry.
-/
import Derived.Test.YtnohdfdjhhmmdaaChecked
import GoSem.Claim
import GoSem.ClaimJoined
import GoSem.ClaimMapViews
import Derived.JoinedTies
import Derived.KernelRfl
namespace Go.Proofs.Ytnohdfdjhhmmdaa
/- THE CELL 'sum', in the pinned program and in every row, IS THE sha256 OF THE DUMP (.gsa) THAT YtnohdfdjhhmmdaaProg.lean LOADS. Nothing in Lean hashes anything: it is a label: what it is worth is what the hold of that sum in a sandbox is worth. -/
noncomputable def Try.pinned : Pinned := { name := "ytnohdfdjhhmmdaa", sum := "f1ba22c91e1d5a91662ff3a2a0d13cb3e2f5cdbb927038bcc6765f765c60f125", checked := Try.checked }
namespace Rows
def none {H : Type} : Left H := { results := [], args := [] }

/-- 'laws.FnBitcon': WHATEVER THE INPUT: true; the input reads as it did. -/
def fnBitconSpec : ChangeSpec := { name := "fnBitcon", fn := fun _ => fun
  | [d] => { results := [.lit (.bool true)], args := [d] }
  | _ => none }
def fnBitconRow : OpenClaim := { program := "ytnohdfdjhhmmdaa", sum := "f1ba22c91e1d5a91662ff3a2a0d13cb3e2f5cdbb927038bcc6765f765c60f125", func := "loop.example/pub-g01458/laws.FnBitcon", spec := "fnBitcon", apart := false }
def FnBitconSaid : Prop := fnBitconRow.holds Try.pinned (OpenSpec.ofChange fnBitconSpec)

/-- ITS FALSE NEIGHBOUR: 'it returns false'. Refute it at one input. -/
def fnBitconWrong : ChangeSpec := { name := "fnBitcon", fn := fun _ => fun
  | [d] => { results := [.lit (.bool false)], args := [d] }
  | _ => none }
def FnBitconWrongFalsely : Prop := fnBitconRow.holds Try.pinned (OpenSpec.ofChange fnBitconWrong)

/-- 'laws.FnBitconHalf': WHATEVER THE INPUT: true; the input reads as it did. -/
def fnBitconHalfSpec : ChangeSpec := { name := "fnBitconHalf", fn := fun _ => fun
  | [d] => { results := [.lit (.bool true)], args := [d] }
  | _ => none }
def fnBitconHalfRow : OpenClaim := { program := "ytnohdfdjhhmmdaa", sum := "f1ba22c91e1d5a91662ff3a2a0d13cb3e2f5cdbb927038bcc6765f765c60f125", func := "loop.example/pub-g01458/laws.FnBitconHalf", spec := "fnBitconHalf", apart := false }
def FnBitconHalfSaid : Prop := fnBitconHalfRow.holds Try.pinned (OpenSpec.ofChange fnBitconHalfSpec)

/-- ITS FALSE NEIGHBOUR: 'it returns false'. Refute it at one input. -/
def fnBitconHalfWrong : ChangeSpec := { name := "fnBitconHalf", fn := fun _ => fun
  | [d] => { results := [.lit (.bool false)], args := [d] }
  | _ => none }
def FnBitconHalfWrongFalsely : Prop := fnBitconHalfRow.holds Try.pinned (OpenSpec.ofChange fnBitconHalfWrong)

/-- 'laws.FnBitconInverted': WHATEVER THE INPUT: true; the input reads as it did. -/
def fnBitconInvertedSpec : ChangeSpec := { name := "fnBitconInverted", fn := fun _ => fun
  | [d] => { results := [.lit (.bool true)], args := [d] }
  | _ => none }
def fnBitconInvertedRow : OpenClaim := { program := "ytnohdfdjhhmmdaa", sum := "f1ba22c91e1d5a91662ff3a2a0d13cb3e2f5cdbb927038bcc6765f765c60f125", func := "loop.example/pub-g01458/laws.FnBitconInverted", spec := "fnBitconInverted", apart := false }
def FnBitconInvertedSaid : Prop := fnBitconInvertedRow.holds Try.pinned (OpenSpec.ofChange fnBitconInvertedSpec)

/-- ITS FALSE NEIGHBOUR: 'it returns false'. Refute it at one input. -/
def fnBitconInvertedWrong : ChangeSpec := { name := "fnBitconInverted", fn := fun _ => fun
  | [d] => { results := [.lit (.bool false)], args := [d] }
  | _ => none }
def FnBitconInvertedWrongFalsely : Prop := fnBitconInvertedRow.holds Try.pinned (OpenSpec.ofChange fnBitconInvertedWrong)

/-- 'laws.FnBitconMade': WHATEVER THE INPUT: true; the input reads as it did. -/
def fnBitconMadeSpec : ChangeSpec := { name := "fnBitconMade", fn := fun _ => fun
  | [d1, d2, d3] => { results := [.lit (.bool true)], args := [d1, d2, d3] }
  | _ => none }
def fnBitconMadeRow : OpenClaim := { program := "ytnohdfdjhhmmdaa", sum := "f1ba22c91e1d5a91662ff3a2a0d13cb3e2f5cdbb927038bcc6765f765c60f125", func := "loop.example/pub-g01458/laws.FnBitconMade", spec := "fnBitconMade", apart := false }
def FnBitconMadeSaid : Prop := fnBitconMadeRow.holds Try.pinned (OpenSpec.ofChange fnBitconMadeSpec)

/-- ITS FALSE NEIGHBOUR: 'it returns false'. Refute it at one input. -/
def fnBitconMadeWrong : ChangeSpec := { name := "fnBitconMade", fn := fun _ => fun
  | [d1, d2, d3] => { results := [.lit (.bool false)], args := [d1, d2, d3] }
  | _ => none }
def FnBitconMadeWrongFalsely : Prop := fnBitconMadeRow.holds Try.pinned (OpenSpec.ofChange fnBitconMadeWrong)

/-- 'laws.FnBitconSame': WHATEVER THE INPUT: true; the input reads as it did. -/
def fnBitconSameSpec : ChangeSpec := { name := "fnBitconSame", fn := fun _ => fun
  | [d1, d2] => { results := [.lit (.bool true)], args := [d1, d2] }
  | _ => none }
def fnBitconSameRow : OpenClaim := { program := "ytnohdfdjhhmmdaa", sum := "f1ba22c91e1d5a91662ff3a2a0d13cb3e2f5cdbb927038bcc6765f765c60f125", func := "loop.example/pub-g01458/laws.FnBitconSame", spec := "fnBitconSame", apart := false }
def FnBitconSameSaid : Prop := fnBitconSameRow.holds Try.pinned (OpenSpec.ofChange fnBitconSameSpec)

/-- ITS FALSE NEIGHBOUR: 'it returns false'. Refute it at one input. -/
def fnBitconSameWrong : ChangeSpec := { name := "fnBitconSame", fn := fun _ => fun
  | [d1, d2] => { results := [.lit (.bool false)], args := [d1, d2] }
  | _ => none }
def FnBitconSameWrongFalsely : Prop := fnBitconSameRow.holds Try.pinned (OpenSpec.ofChange fnBitconSameWrong)

/-- 'laws.FnBitconTurned': WHATEVER THE INPUT: true; the input reads as it did. -/
def fnBitconTurnedSpec : ChangeSpec := { name := "fnBitconTurned", fn := fun _ => fun
  | [d] => { results := [.lit (.bool true)], args := [d] }
  | _ => none }
def fnBitconTurnedRow : OpenClaim := { program := "ytnohdfdjhhmmdaa", sum := "f1ba22c91e1d5a91662ff3a2a0d13cb3e2f5cdbb927038bcc6765f765c60f125", func := "loop.example/pub-g01458/laws.FnBitconTurned", spec := "fnBitconTurned", apart := false }
def FnBitconTurnedSaid : Prop := fnBitconTurnedRow.holds Try.pinned (OpenSpec.ofChange fnBitconTurnedSpec)

/-- ITS FALSE NEIGHBOUR: 'it returns false'. Refute it at one input. -/
def fnBitconTurnedWrong : ChangeSpec := { name := "fnBitconTurned", fn := fun _ => fun
  | [d] => { results := [.lit (.bool false)], args := [d] }
  | _ => none }
def FnBitconTurnedWrongFalsely : Prop := fnBitconTurnedRow.holds Try.pinned (OpenSpec.ofChange fnBitconTurnedWrong)

/-- 'laws.FnEncode': WHATEVER THE INPUT: true; the input reads as it did. -/
def fnEncodeSpec : ChangeSpec := { name := "fnEncode", fn := fun _ => fun
  | [d1, d2, d3] => { results := [.lit (.bool true)], args := [d1, d2, d3] }
  | _ => none }
def fnEncodeRow : OpenClaim := { program := "ytnohdfdjhhmmdaa", sum := "f1ba22c91e1d5a91662ff3a2a0d13cb3e2f5cdbb927038bcc6765f765c60f125", func := "loop.example/pub-g01458/laws.FnEncode", spec := "fnEncode", apart := false }
def FnEncodeSaid : Prop := fnEncodeRow.holds Try.pinned (OpenSpec.ofChange fnEncodeSpec)

/-- ITS FALSE NEIGHBOUR: 'it returns false'. Refute it at one input. -/
def fnEncodeWrong : ChangeSpec := { name := "fnEncode", fn := fun _ => fun
  | [d1, d2, d3] => { results := [.lit (.bool false)], args := [d1, d2, d3] }
  | _ => none }
def FnEncodeWrongFalsely : Prop := fnEncodeRow.holds Try.pinned (OpenSpec.ofChange fnEncodeWrong)

/-- 'laws.FnEncodeModes': WHATEVER THE INPUT: true; the input reads as it did. -/
def fnEncodeModesSpec : ChangeSpec := { name := "fnEncodeModes", fn := fun _ => fun
  | [d1, d2, d3] => { results := [.lit (.bool true)], args := [d1, d2, d3] }
  | _ => none }
def fnEncodeModesRow : OpenClaim := { program := "ytnohdfdjhhmmdaa", sum := "f1ba22c91e1d5a91662ff3a2a0d13cb3e2f5cdbb927038bcc6765f765c60f125", func := "loop.example/pub-g01458/laws.FnEncodeModes", spec := "fnEncodeModes", apart := false }
def FnEncodeModesSaid : Prop := fnEncodeModesRow.holds Try.pinned (OpenSpec.ofChange fnEncodeModesSpec)

/-- ITS FALSE NEIGHBOUR: 'it returns false'. Refute it at one input. -/
def fnEncodeModesWrong : ChangeSpec := { name := "fnEncodeModes", fn := fun _ => fun
  | [d1, d2, d3] => { results := [.lit (.bool false)], args := [d1, d2, d3] }
  | _ => none }
def FnEncodeModesWrongFalsely : Prop := fnEncodeModesRow.holds Try.pinned (OpenSpec.ofChange fnEncodeModesWrong)

/-- 'laws.FnEncodeRead': WHATEVER THE INPUT: true; the input reads as it did. -/
def fnEncodeReadSpec : ChangeSpec := { name := "fnEncodeRead", fn := fun _ => fun
  | [d1, d2, d3] => { results := [.lit (.bool true)], args := [d1, d2, d3] }
  | _ => none }
def fnEncodeReadRow : OpenClaim := { program := "ytnohdfdjhhmmdaa", sum := "f1ba22c91e1d5a91662ff3a2a0d13cb3e2f5cdbb927038bcc6765f765c60f125", func := "loop.example/pub-g01458/laws.FnEncodeRead", spec := "fnEncodeRead", apart := false }
def FnEncodeReadSaid : Prop := fnEncodeReadRow.holds Try.pinned (OpenSpec.ofChange fnEncodeReadSpec)

/-- ITS FALSE NEIGHBOUR: 'it returns false'. Refute it at one input. -/
def fnEncodeReadWrong : ChangeSpec := { name := "fnEncodeRead", fn := fun _ => fun
  | [d1, d2, d3] => { results := [.lit (.bool false)], args := [d1, d2, d3] }
  | _ => none }
def FnEncodeReadWrongFalsely : Prop := fnEncodeReadRow.holds Try.pinned (OpenSpec.ofChange fnEncodeReadWrong)

/-- 'laws.FnEncodeRepeated': WHATEVER THE INPUT: true; the input reads as it did. -/
def fnEncodeRepeatedSpec : ChangeSpec := { name := "fnEncodeRepeated", fn := fun _ => fun
  | [d] => { results := [.lit (.bool true)], args := [d] }
  | _ => none }
def fnEncodeRepeatedRow : OpenClaim := { program := "ytnohdfdjhhmmdaa", sum := "f1ba22c91e1d5a91662ff3a2a0d13cb3e2f5cdbb927038bcc6765f765c60f125", func := "loop.example/pub-g01458/laws.FnEncodeRepeated", spec := "fnEncodeRepeated", apart := false }
def FnEncodeRepeatedSaid : Prop := fnEncodeRepeatedRow.holds Try.pinned (OpenSpec.ofChange fnEncodeRepeatedSpec)

/-- ITS FALSE NEIGHBOUR: 'it returns false'. Refute it at one input. -/
def fnEncodeRepeatedWrong : ChangeSpec := { name := "fnEncodeRepeated", fn := fun _ => fun
  | [d] => { results := [.lit (.bool false)], args := [d] }
  | _ => none }
def FnEncodeRepeatedWrongFalsely : Prop := fnEncodeRepeatedRow.holds Try.pinned (OpenSpec.ofChange fnEncodeRepeatedWrong)

/-- 'laws.FnEncodeTurned': WHATEVER THE INPUT: true; the input reads as it did. -/
def fnEncodeTurnedSpec : ChangeSpec := { name := "fnEncodeTurned", fn := fun _ => fun
  | [d1, d2, d3] => { results := [.lit (.bool true)], args := [d1, d2, d3] }
  | _ => none }
def fnEncodeTurnedRow : OpenClaim := { program := "ytnohdfdjhhmmdaa", sum := "f1ba22c91e1d5a91662ff3a2a0d13cb3e2f5cdbb927038bcc6765f765c60f125", func := "loop.example/pub-g01458/laws.FnEncodeTurned", spec := "fnEncodeTurned", apart := false }
def FnEncodeTurnedSaid : Prop := fnEncodeTurnedRow.holds Try.pinned (OpenSpec.ofChange fnEncodeTurnedSpec)

/-- ITS FALSE NEIGHBOUR: 'it returns false'. Refute it at one input. -/
def fnEncodeTurnedWrong : ChangeSpec := { name := "fnEncodeTurned", fn := fun _ => fun
  | [d1, d2, d3] => { results := [.lit (.bool false)], args := [d1, d2, d3] }
  | _ => none }
def FnEncodeTurnedWrongFalsely : Prop := fnEncodeTurnedRow.holds Try.pinned (OpenSpec.ofChange fnEncodeTurnedWrong)

/- THE SECOND FORM. 'bulk': how many values and letters a reading holds, each counted each time it is reached (what is shared counts as often as it is met; a slice's spare places count too). A statement '..UptoSaid' is the law's where the arguments, and the package variables that the reading takes, are together of bulk at most 1048576: NARROWER than '..Said'. Prove '..Said' where nothing that the law and all that it calls make is longer than what came in: it says more and counts as full. Else prove '..UptoSaid'. A law counts once. -/
mutual
def uptoBulk {H : Type} : DataW H → Nat
  | .lit (.string bytes) => bytes.length + 1
  | .lit _ => 1
  | .nil => 1
  | .ptr d => uptoBulk d + 1
  | .slice elems spare => uptoBulkAll elems + uptoBulkAll spare + 1
  | .agg parts => uptoBulkAll parts + 1
  | .iface _ d => uptoBulk d + 1
  | .map entries => uptoBulkEntries entries + 1
  | .held _ => 1
def uptoBulkAll {H : Type} : List (DataW H) → Nat
  | [] => 0
  | d :: r => uptoBulk d + uptoBulkAll r
def uptoBulkEntries {H : Type} : List (Lit × DataW H) → Nat
  | [] => 0
  | x :: r => uptoBulkEntry x + uptoBulkEntries r
def uptoBulkEntry {H : Type} : Lit × DataW H → Nat
  | (.string bytes, d) => bytes.length + uptoBulk d + 1
  | (_, d) => uptoBulk d + 1
 end
def uptoSmall : (H : Type) → List (DataW H) → Bool := fun _ ds => decide (uptoBulkAll ds ≤ 1048576)
def OpenSpec.upto (s : _root_.Go.ChangeSpec) : _root_.Go.OpenSpec := { _root_.Go.OpenSpec.ofChange s with cond := some uptoSmall }

/-- 'laws.FnBitcon', WHERE WHAT IT READS IS OF BULK AT MOST 1048576: true; the input reads as it did. -/
def fnBitconUptoRow : OpenClaim := { program := "ytnohdfdjhhmmdaa", sum := "f1ba22c91e1d5a91662ff3a2a0d13cb3e2f5cdbb927038bcc6765f765c60f125", func := "loop.example/pub-g01458/laws.FnBitcon", spec := "fnBitcon", apart := false, narrowed := true }
def FnBitconUptoSaid : Prop := fnBitconUptoRow.holds Try.pinned (OpenSpec.upto fnBitconSpec)

/-- 'laws.FnBitconHalf', WHERE WHAT IT READS IS OF BULK AT MOST 1048576: true; the input reads as it did. -/
def fnBitconHalfUptoRow : OpenClaim := { program := "ytnohdfdjhhmmdaa", sum := "f1ba22c91e1d5a91662ff3a2a0d13cb3e2f5cdbb927038bcc6765f765c60f125", func := "loop.example/pub-g01458/laws.FnBitconHalf", spec := "fnBitconHalf", apart := false, narrowed := true }
def FnBitconHalfUptoSaid : Prop := fnBitconHalfUptoRow.holds Try.pinned (OpenSpec.upto fnBitconHalfSpec)

/-- 'laws.FnBitconInverted', WHERE WHAT IT READS IS OF BULK AT MOST 1048576: true; the input reads as it did. -/
def fnBitconInvertedUptoRow : OpenClaim := { program := "ytnohdfdjhhmmdaa", sum := "f1ba22c91e1d5a91662ff3a2a0d13cb3e2f5cdbb927038bcc6765f765c60f125", func := "loop.example/pub-g01458/laws.FnBitconInverted", spec := "fnBitconInverted", apart := false, narrowed := true }
def FnBitconInvertedUptoSaid : Prop := fnBitconInvertedUptoRow.holds Try.pinned (OpenSpec.upto fnBitconInvertedSpec)

/-- 'laws.FnBitconMade', WHERE WHAT IT READS IS OF BULK AT MOST 1048576: true; the input reads as it did. -/
def fnBitconMadeUptoRow : OpenClaim := { program := "ytnohdfdjhhmmdaa", sum := "f1ba22c91e1d5a91662ff3a2a0d13cb3e2f5cdbb927038bcc6765f765c60f125", func := "loop.example/pub-g01458/laws.FnBitconMade", spec := "fnBitconMade", apart := false, narrowed := true }
def FnBitconMadeUptoSaid : Prop := fnBitconMadeUptoRow.holds Try.pinned (OpenSpec.upto fnBitconMadeSpec)

/-- 'laws.FnBitconSame', WHERE WHAT IT READS IS OF BULK AT MOST 1048576: true; the input reads as it did. -/
def fnBitconSameUptoRow : OpenClaim := { program := "ytnohdfdjhhmmdaa", sum := "f1ba22c91e1d5a91662ff3a2a0d13cb3e2f5cdbb927038bcc6765f765c60f125", func := "loop.example/pub-g01458/laws.FnBitconSame", spec := "fnBitconSame", apart := false, narrowed := true }
def FnBitconSameUptoSaid : Prop := fnBitconSameUptoRow.holds Try.pinned (OpenSpec.upto fnBitconSameSpec)

/-- 'laws.FnBitconTurned', WHERE WHAT IT READS IS OF BULK AT MOST 1048576: true; the input reads as it did. -/
def fnBitconTurnedUptoRow : OpenClaim := { program := "ytnohdfdjhhmmdaa", sum := "f1ba22c91e1d5a91662ff3a2a0d13cb3e2f5cdbb927038bcc6765f765c60f125", func := "loop.example/pub-g01458/laws.FnBitconTurned", spec := "fnBitconTurned", apart := false, narrowed := true }
def FnBitconTurnedUptoSaid : Prop := fnBitconTurnedUptoRow.holds Try.pinned (OpenSpec.upto fnBitconTurnedSpec)

/-- 'laws.FnEncode', WHERE WHAT IT READS IS OF BULK AT MOST 1048576: true; the input reads as it did. -/
def fnEncodeUptoRow : OpenClaim := { program := "ytnohdfdjhhmmdaa", sum := "f1ba22c91e1d5a91662ff3a2a0d13cb3e2f5cdbb927038bcc6765f765c60f125", func := "loop.example/pub-g01458/laws.FnEncode", spec := "fnEncode", apart := false, narrowed := true }
def FnEncodeUptoSaid : Prop := fnEncodeUptoRow.holds Try.pinned (OpenSpec.upto fnEncodeSpec)

/-- 'laws.FnEncodeModes', WHERE WHAT IT READS IS OF BULK AT MOST 1048576: true; the input reads as it did. -/
def fnEncodeModesUptoRow : OpenClaim := { program := "ytnohdfdjhhmmdaa", sum := "f1ba22c91e1d5a91662ff3a2a0d13cb3e2f5cdbb927038bcc6765f765c60f125", func := "loop.example/pub-g01458/laws.FnEncodeModes", spec := "fnEncodeModes", apart := false, narrowed := true }
def FnEncodeModesUptoSaid : Prop := fnEncodeModesUptoRow.holds Try.pinned (OpenSpec.upto fnEncodeModesSpec)

/-- 'laws.FnEncodeRead', WHERE WHAT IT READS IS OF BULK AT MOST 1048576: true; the input reads as it did. -/
def fnEncodeReadUptoRow : OpenClaim := { program := "ytnohdfdjhhmmdaa", sum := "f1ba22c91e1d5a91662ff3a2a0d13cb3e2f5cdbb927038bcc6765f765c60f125", func := "loop.example/pub-g01458/laws.FnEncodeRead", spec := "fnEncodeRead", apart := false, narrowed := true }
def FnEncodeReadUptoSaid : Prop := fnEncodeReadUptoRow.holds Try.pinned (OpenSpec.upto fnEncodeReadSpec)

/-- 'laws.FnEncodeRepeated', WHERE WHAT IT READS IS OF BULK AT MOST 1048576: true; the input reads as it did. -/
def fnEncodeRepeatedUptoRow : OpenClaim := { program := "ytnohdfdjhhmmdaa", sum := "f1ba22c91e1d5a91662ff3a2a0d13cb3e2f5cdbb927038bcc6765f765c60f125", func := "loop.example/pub-g01458/laws.FnEncodeRepeated", spec := "fnEncodeRepeated", apart := false, narrowed := true }
def FnEncodeRepeatedUptoSaid : Prop := fnEncodeRepeatedUptoRow.holds Try.pinned (OpenSpec.upto fnEncodeRepeatedSpec)

/-- 'laws.FnEncodeTurned', WHERE WHAT IT READS IS OF BULK AT MOST 1048576: true; the input reads as it did. -/
def fnEncodeTurnedUptoRow : OpenClaim := { program := "ytnohdfdjhhmmdaa", sum := "f1ba22c91e1d5a91662ff3a2a0d13cb3e2f5cdbb927038bcc6765f765c60f125", func := "loop.example/pub-g01458/laws.FnEncodeTurned", spec := "fnEncodeTurned", apart := false, narrowed := true }
def FnEncodeTurnedUptoSaid : Prop := fnEncodeTurnedUptoRow.holds Try.pinned (OpenSpec.upto fnEncodeTurnedSpec)

end Rows
end Go.Proofs.Ytnohdfdjhhmmdaa
