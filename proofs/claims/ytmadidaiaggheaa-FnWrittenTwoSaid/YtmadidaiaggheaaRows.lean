/-
  No cell of these rows narrows 'for every input' (looked for: loops, veiled, ifaces, maps, wideKeys, modest, calm, conditions, laid).
  DERIVED. THE GIVEN ROWS OF THIS SEAT. 7 by the template 'for every input the law returns true; each argument reads behind the call as it read before'; 0 by the template 'total and deterministic' (their statements: YtmadidaiaggheaaTotals.lean).
  GIVEN WITH THE SEED: the statements are not yours to turn. If you find one false, say at which input.
  Laid BY PROGRAM, IN A SANDBOX (cutbox-rows.mjs): the forced cells as the released guide's own fill.sh prints them over the translation c00886eaebbdad88… (all of the seat's roots in one cut). By AI agents, Wed Nov 11 2026. No macro, syntax, notation, axiom, sorry.
-/
import Derived.Test.YtmadidaiaggheaaChecked
import GoSem.Claim
import GoSem.ClaimJoined
import GoSem.ClaimMapViews
import Derived.JoinedTies
import Derived.KernelRfl
namespace Go.Proofs.Ytmadidaiaggheaa
/- THE CELL 'sum', in the pinned program and in every row, IS THE sha256 OF THE DUMP (.gsa) THAT YtmadidaiaggheaaProg.lean LOADS. Nothing in Lean hashes anything: it is a label: what it is worth is what the hold of that sum in a sandbox is worth. -/
noncomputable def Try.pinned : Pinned := { name := "ytmadidaiaggheaa", sum := "c00886eaebbdad8867119e3ce2b3b65204d32b3075d2390b519099cebbbe68c2", checked := Try.checked }
namespace Rows
def none {H : Type} : Left H := { results := [], args := [] }

/-- 'laws.FnWrittenOne': WHATEVER THE INPUT: true; the input reads as it did. -/
def fnWrittenOneSpec : ChangeSpec := { name := "fnWrittenOne", fn := fun _ => fun
  | [d1, d2, d3] => { results := [.lit (.bool true)], args := [d1, d2, d3] }
  | _ => none }
def fnWrittenOneRow : OpenClaim := { program := "ytmadidaiaggheaa", sum := "c00886eaebbdad8867119e3ce2b3b65204d32b3075d2390b519099cebbbe68c2", func := "loop.example/pub-g01458/laws.FnWrittenOne", spec := "fnWrittenOne", unfollowed := true, recurses := true, apart := false }
def FnWrittenOneSaid : Prop := fnWrittenOneRow.holds Try.pinned (OpenSpec.ofChange fnWrittenOneSpec)

/-- ITS FALSE NEIGHBOUR: 'it returns false'. Refute it at one input. -/
def fnWrittenOneWrong : ChangeSpec := { name := "fnWrittenOne", fn := fun _ => fun
  | [d1, d2, d3] => { results := [.lit (.bool false)], args := [d1, d2, d3] }
  | _ => none }
def FnWrittenOneWrongFalsely : Prop := fnWrittenOneRow.holds Try.pinned (OpenSpec.ofChange fnWrittenOneWrong)

/-- 'laws.FnWrittenRead': WHATEVER THE INPUT: true; the input reads as it did. -/
def fnWrittenReadSpec : ChangeSpec := { name := "fnWrittenRead", fn := fun _ => fun
  | [d1, d2, d3, d4, d5] => { results := [.lit (.bool true)], args := [d1, d2, d3, d4, d5] }
  | _ => none }
def fnWrittenReadRow : OpenClaim := { program := "ytmadidaiaggheaa", sum := "c00886eaebbdad8867119e3ce2b3b65204d32b3075d2390b519099cebbbe68c2", func := "loop.example/pub-g01458/laws.FnWrittenRead", spec := "fnWrittenRead", unfollowed := true, recurses := true, apart := false }
def FnWrittenReadSaid : Prop := fnWrittenReadRow.holds Try.pinned (OpenSpec.ofChange fnWrittenReadSpec)

/-- ITS FALSE NEIGHBOUR: 'it returns false'. Refute it at one input. -/
def fnWrittenReadWrong : ChangeSpec := { name := "fnWrittenRead", fn := fun _ => fun
  | [d1, d2, d3, d4, d5] => { results := [.lit (.bool false)], args := [d1, d2, d3, d4, d5] }
  | _ => none }
def FnWrittenReadWrongFalsely : Prop := fnWrittenReadRow.holds Try.pinned (OpenSpec.ofChange fnWrittenReadWrong)

/-- 'laws.FnWrittenTwo': WHATEVER THE INPUT: true; the input reads as it did. -/
def fnWrittenTwoSpec : ChangeSpec := { name := "fnWrittenTwo", fn := fun _ => fun
  | [d1, d2, d3, d4] => { results := [.lit (.bool true)], args := [d1, d2, d3, d4] }
  | _ => none }
def fnWrittenTwoRow : OpenClaim := { program := "ytmadidaiaggheaa", sum := "c00886eaebbdad8867119e3ce2b3b65204d32b3075d2390b519099cebbbe68c2", func := "loop.example/pub-g01458/laws.FnWrittenTwo", spec := "fnWrittenTwo", unfollowed := true, recurses := true, apart := false }
def FnWrittenTwoSaid : Prop := fnWrittenTwoRow.holds Try.pinned (OpenSpec.ofChange fnWrittenTwoSpec)

/-- ITS FALSE NEIGHBOUR: 'it returns false'. Refute it at one input. -/
def fnWrittenTwoWrong : ChangeSpec := { name := "fnWrittenTwo", fn := fun _ => fun
  | [d1, d2, d3, d4] => { results := [.lit (.bool false)], args := [d1, d2, d3, d4] }
  | _ => none }
def FnWrittenTwoWrongFalsely : Prop := fnWrittenTwoRow.holds Try.pinned (OpenSpec.ofChange fnWrittenTwoWrong)

/-- 'laws.FnWritten': WHATEVER THE INPUT: true; the input reads as it did. -/
def fnWrittenSpec : ChangeSpec := { name := "fnWritten", fn := fun _ => fun
  | [d1, d2, d3, d4, d5] => { results := [.lit (.bool true)], args := [d1, d2, d3, d4, d5] }
  | _ => none }
def fnWrittenRow : OpenClaim := { program := "ytmadidaiaggheaa", sum := "c00886eaebbdad8867119e3ce2b3b65204d32b3075d2390b519099cebbbe68c2", func := "loop.example/pub-g01458/laws.FnWritten", spec := "fnWritten", unfollowed := true, recurses := true, apart := false }
def FnWrittenSaid : Prop := fnWrittenRow.holds Try.pinned (OpenSpec.ofChange fnWrittenSpec)

/-- ITS FALSE NEIGHBOUR: 'it returns false'. Refute it at one input. -/
def fnWrittenWrong : ChangeSpec := { name := "fnWritten", fn := fun _ => fun
  | [d1, d2, d3, d4, d5] => { results := [.lit (.bool false)], args := [d1, d2, d3, d4, d5] }
  | _ => none }
def FnWrittenWrongFalsely : Prop := fnWrittenRow.holds Try.pinned (OpenSpec.ofChange fnWrittenWrong)

/-- 'laws.FnWrittenBehind': WHATEVER THE INPUT: true; the input reads as it did. -/
def fnWrittenBehindSpec : ChangeSpec := { name := "fnWrittenBehind", fn := fun _ => fun
  | [d1, d2, d3, d4, d5, d6] => { results := [.lit (.bool true)], args := [d1, d2, d3, d4, d5, d6] }
  | _ => none }
def fnWrittenBehindRow : OpenClaim := { program := "ytmadidaiaggheaa", sum := "c00886eaebbdad8867119e3ce2b3b65204d32b3075d2390b519099cebbbe68c2", func := "loop.example/pub-g01458/laws.FnWrittenBehind", spec := "fnWrittenBehind", unfollowed := true, recurses := true, apart := false }
def FnWrittenBehindSaid : Prop := fnWrittenBehindRow.holds Try.pinned (OpenSpec.ofChange fnWrittenBehindSpec)

/-- ITS FALSE NEIGHBOUR: 'it returns false'. Refute it at one input. -/
def fnWrittenBehindWrong : ChangeSpec := { name := "fnWrittenBehind", fn := fun _ => fun
  | [d1, d2, d3, d4, d5, d6] => { results := [.lit (.bool false)], args := [d1, d2, d3, d4, d5, d6] }
  | _ => none }
def FnWrittenBehindWrongFalsely : Prop := fnWrittenBehindRow.holds Try.pinned (OpenSpec.ofChange fnWrittenBehindWrong)

/-- 'laws.FnWrittenScaled': WHATEVER THE INPUT: true; the input reads as it did. -/
def fnWrittenScaledSpec : ChangeSpec := { name := "fnWrittenScaled", fn := fun _ => fun
  | [d1, d2, d3, d4, d5] => { results := [.lit (.bool true)], args := [d1, d2, d3, d4, d5] }
  | _ => none }
def fnWrittenScaledRow : OpenClaim := { program := "ytmadidaiaggheaa", sum := "c00886eaebbdad8867119e3ce2b3b65204d32b3075d2390b519099cebbbe68c2", func := "loop.example/pub-g01458/laws.FnWrittenScaled", spec := "fnWrittenScaled", unfollowed := true, recurses := true, apart := false }
def FnWrittenScaledSaid : Prop := fnWrittenScaledRow.holds Try.pinned (OpenSpec.ofChange fnWrittenScaledSpec)

/-- ITS FALSE NEIGHBOUR: 'it returns false'. Refute it at one input. -/
def fnWrittenScaledWrong : ChangeSpec := { name := "fnWrittenScaled", fn := fun _ => fun
  | [d1, d2, d3, d4, d5] => { results := [.lit (.bool false)], args := [d1, d2, d3, d4, d5] }
  | _ => none }
def FnWrittenScaledWrongFalsely : Prop := fnWrittenScaledRow.holds Try.pinned (OpenSpec.ofChange fnWrittenScaledWrong)

/-- 'laws.FnWrittenValue': WHATEVER THE INPUT: true; the input reads as it did. -/
def fnWrittenValueSpec : ChangeSpec := { name := "fnWrittenValue", fn := fun _ => fun
  | [d1, d2, d3, d4, d5, d6] => { results := [.lit (.bool true)], args := [d1, d2, d3, d4, d5, d6] }
  | _ => none }
def fnWrittenValueRow : OpenClaim := { program := "ytmadidaiaggheaa", sum := "c00886eaebbdad8867119e3ce2b3b65204d32b3075d2390b519099cebbbe68c2", func := "loop.example/pub-g01458/laws.FnWrittenValue", spec := "fnWrittenValue", unfollowed := true, recurses := true, apart := false }
def FnWrittenValueSaid : Prop := fnWrittenValueRow.holds Try.pinned (OpenSpec.ofChange fnWrittenValueSpec)

/-- ITS FALSE NEIGHBOUR: 'it returns false'. Refute it at one input. -/
def fnWrittenValueWrong : ChangeSpec := { name := "fnWrittenValue", fn := fun _ => fun
  | [d1, d2, d3, d4, d5, d6] => { results := [.lit (.bool false)], args := [d1, d2, d3, d4, d5, d6] }
  | _ => none }
def FnWrittenValueWrongFalsely : Prop := fnWrittenValueRow.holds Try.pinned (OpenSpec.ofChange fnWrittenValueWrong)

/- THE SECOND FORM. 'bulk': how many values and letters a reading holds, each counted each time it is reached (what is shared counts as often as it is met; a slice's spare places count too). A statement '..UptoSaid' is the law's where the arguments, and the package variables that the reading takes, are together of bulk at most 1048576: NARROWER than '..Said'. Prove '..Said' where nothing that the law and all that it calls make is longer than what came in: it says more and counts as full. Else prove '..UptoSaid'. A law counts once. -/
mutual
def uptoBulk {H : Type} : DataW H → Nat
  | .lit (.string bytes) => bytes.length + 1
  | .lit _ => 1
  | .nil => 1
  | .ptr d => uptoBulk d + 1
  | .slice elems spare => uptoBulkAll elems + uptoBulkAll spare + 1
  | .agg parts => uptoBulkAll parts + 1
  | .iface _ d => uptoBulk d + 1
  | .map entries => uptoBulkEntries entries + 1
  | .held _ => 1
def uptoBulkAll {H : Type} : List (DataW H) → Nat
  | [] => 0
  | d :: r => uptoBulk d + uptoBulkAll r
def uptoBulkEntries {H : Type} : List (Lit × DataW H) → Nat
  | [] => 0
  | x :: r => uptoBulkEntry x + uptoBulkEntries r
def uptoBulkEntry {H : Type} : Lit × DataW H → Nat
  | (.string bytes, d) => bytes.length + uptoBulk d + 1
  | (_, d) => uptoBulk d + 1
 end
def uptoSmall : (H : Type) → List (DataW H) → Bool := fun _ ds => decide (uptoBulkAll ds ≤ 1048576)
def OpenSpec.upto (s : _root_.Go.ChangeSpec) : _root_.Go.OpenSpec := { _root_.Go.OpenSpec.ofChange s with cond := some uptoSmall }

/-- 'laws.FnWrittenOne', WHERE WHAT IT READS IS OF BULK AT MOST 1048576: true; the input reads as it did. -/
def fnWrittenOneUptoRow : OpenClaim := { program := "ytmadidaiaggheaa", sum := "c00886eaebbdad8867119e3ce2b3b65204d32b3075d2390b519099cebbbe68c2", func := "loop.example/pub-g01458/laws.FnWrittenOne", spec := "fnWrittenOne", unfollowed := true, recurses := true, apart := false, narrowed := true }
def FnWrittenOneUptoSaid : Prop := fnWrittenOneUptoRow.holds Try.pinned (OpenSpec.upto fnWrittenOneSpec)

/-- 'laws.FnWrittenRead', WHERE WHAT IT READS IS OF BULK AT MOST 1048576: true; the input reads as it did. -/
def fnWrittenReadUptoRow : OpenClaim := { program := "ytmadidaiaggheaa", sum := "c00886eaebbdad8867119e3ce2b3b65204d32b3075d2390b519099cebbbe68c2", func := "loop.example/pub-g01458/laws.FnWrittenRead", spec := "fnWrittenRead", unfollowed := true, recurses := true, apart := false, narrowed := true }
def FnWrittenReadUptoSaid : Prop := fnWrittenReadUptoRow.holds Try.pinned (OpenSpec.upto fnWrittenReadSpec)

/-- 'laws.FnWrittenTwo', WHERE WHAT IT READS IS OF BULK AT MOST 1048576: true; the input reads as it did. -/
def fnWrittenTwoUptoRow : OpenClaim := { program := "ytmadidaiaggheaa", sum := "c00886eaebbdad8867119e3ce2b3b65204d32b3075d2390b519099cebbbe68c2", func := "loop.example/pub-g01458/laws.FnWrittenTwo", spec := "fnWrittenTwo", unfollowed := true, recurses := true, apart := false, narrowed := true }
def FnWrittenTwoUptoSaid : Prop := fnWrittenTwoUptoRow.holds Try.pinned (OpenSpec.upto fnWrittenTwoSpec)

/-- 'laws.FnWritten', WHERE WHAT IT READS IS OF BULK AT MOST 1048576: true; the input reads as it did. -/
def fnWrittenUptoRow : OpenClaim := { program := "ytmadidaiaggheaa", sum := "c00886eaebbdad8867119e3ce2b3b65204d32b3075d2390b519099cebbbe68c2", func := "loop.example/pub-g01458/laws.FnWritten", spec := "fnWritten", unfollowed := true, recurses := true, apart := false, narrowed := true }
def FnWrittenUptoSaid : Prop := fnWrittenUptoRow.holds Try.pinned (OpenSpec.upto fnWrittenSpec)

/-- 'laws.FnWrittenBehind', WHERE WHAT IT READS IS OF BULK AT MOST 1048576: true; the input reads as it did. -/
def fnWrittenBehindUptoRow : OpenClaim := { program := "ytmadidaiaggheaa", sum := "c00886eaebbdad8867119e3ce2b3b65204d32b3075d2390b519099cebbbe68c2", func := "loop.example/pub-g01458/laws.FnWrittenBehind", spec := "fnWrittenBehind", unfollowed := true, recurses := true, apart := false, narrowed := true }
def FnWrittenBehindUptoSaid : Prop := fnWrittenBehindUptoRow.holds Try.pinned (OpenSpec.upto fnWrittenBehindSpec)

/-- 'laws.FnWrittenScaled', WHERE WHAT IT READS IS OF BULK AT MOST 1048576: true; the input reads as it did. -/
def fnWrittenScaledUptoRow : OpenClaim := { program := "ytmadidaiaggheaa", sum := "c00886eaebbdad8867119e3ce2b3b65204d32b3075d2390b519099cebbbe68c2", func := "loop.example/pub-g01458/laws.FnWrittenScaled", spec := "fnWrittenScaled", unfollowed := true, recurses := true, apart := false, narrowed := true }
def FnWrittenScaledUptoSaid : Prop := fnWrittenScaledUptoRow.holds Try.pinned (OpenSpec.upto fnWrittenScaledSpec)

/-- 'laws.FnWrittenValue', WHERE WHAT IT READS IS OF BULK AT MOST 1048576: true; the input reads as it did. -/
def fnWrittenValueUptoRow : OpenClaim := { program := "ytmadidaiaggheaa", sum := "c00886eaebbdad8867119e3ce2b3b65204d32b3075d2390b519099cebbbe68c2", func := "loop.example/pub-g01458/laws.FnWrittenValue", spec := "fnWrittenValue", unfollowed := true, recurses := true, apart := false, narrowed := true }
def FnWrittenValueUptoSaid : Prop := fnWrittenValueUptoRow.holds Try.pinned (OpenSpec.upto fnWrittenValueSpec)

end Rows
end Go.Proofs.Ytmadidaiaggheaa
