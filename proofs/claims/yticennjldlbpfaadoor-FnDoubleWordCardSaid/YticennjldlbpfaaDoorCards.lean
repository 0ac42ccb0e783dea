/-
  DERIVED. GIVEN WITH THE SEED: THE CARDS: each row of YticennjldlbpfaaDoorRows.lean that lists a variable, with what it lists TIED to the program's text (the seventh form; the later family's looks); each row that meets fmt, with fmt's text TOLD by the authors' own Lean function (tested against real Go, not proved from fmt's source: count such statements apart). THE CARD IS WHAT COUNTS. Prove the row's statement (the work); the ties are given (YticennjldlbpfaaDoorTie.lean); close each card by the builder's one call (the guide's Derived/Test/ToyasCard.lean, 'card_holds'). Laid BY PROGRAM, IN A SANDBOX (cutbox-door.mjs). By AI agents, Wed Nov 11 2026. No macro, syntax, notation, axiom, sorry.
-/
import Derived.Test.YticennjldlbpfaaDoorRows
import GoSem.ClaimSeven
namespace Go.Proofs.YticennjldlbpfaaDoor
namespace Rows

/-- THE TIED CARD OF 'laws.FnWord'. -/
def fnWordCard : Claim7 := { stood := { row := fnWordRow, standIns := [], harness := (true, "33f1caa3fc3e0f661bace7b9291c4468e5de5f6d3e4dc56793d25346aea58ec2"), looks := false }, kinds := [], alts := [], laidByText := true, laidKinds := [.data], laidTests := true, laidLooks := .later }
def FnWordCardSaid : Prop := Claim7.holds Tryd.pinned (.plain (OpenSpec.ofChange fnWordSpec)) fnWordCard

/-- THE TIED CARD OF 'laws.FnWordInverted'. -/
def fnWordInvertedCard : Claim7 := { stood := { row := fnWordInvertedRow, standIns := [], harness := (true, "33f1caa3fc3e0f661bace7b9291c4468e5de5f6d3e4dc56793d25346aea58ec2"), looks := false }, kinds := [], alts := [], laidByText := true, laidKinds := [.data], laidTests := true, laidLooks := .later }
def FnWordInvertedCardSaid : Prop := Claim7.holds Tryd.pinned (.plain (OpenSpec.ofChange fnWordInvertedSpec)) fnWordInvertedCard

/-- THE TIED CARD OF 'laws.FnWordMade'. -/
def fnWordMadeCard : Claim7 := { stood := { row := fnWordMadeRow, standIns := [], harness := (true, "33f1caa3fc3e0f661bace7b9291c4468e5de5f6d3e4dc56793d25346aea58ec2"), looks := false }, kinds := [], alts := [], laidByText := true, laidKinds := [.data], laidTests := true, laidLooks := .later }
def FnWordMadeCardSaid : Prop := Claim7.holds Tryd.pinned (.plain (OpenSpec.ofChange fnWordMadeSpec)) fnWordMadeCard

/-- THE TIED CARD OF 'laws.FnWordOne'. -/
def fnWordOneCard : Claim7 := { stood := { row := fnWordOneRow, standIns := [], harness := (true, "33f1caa3fc3e0f661bace7b9291c4468e5de5f6d3e4dc56793d25346aea58ec2"), looks := false }, kinds := [], alts := [], laidByText := true, laidKinds := [.data], laidTests := true, laidLooks := .later }
def FnWordOneCardSaid : Prop := Claim7.holds Tryd.pinned (.plain (OpenSpec.ofChange fnWordOneSpec)) fnWordOneCard

/-- THE TIED CARD OF 'laws.FnDouble'. -/
def fnDoubleCard : Claim7 := { stood := { row := fnDoubleRow, standIns := [], harness := (true, "33f1caa3fc3e0f661bace7b9291c4468e5de5f6d3e4dc56793d25346aea58ec2"), looks := false }, kinds := [], alts := [], laidByText := true, laidKinds := [.data], laidTests := true, laidLooks := .later }
def FnDoubleCardSaid : Prop := Claim7.holds Tryd.pinned (.plain (OpenSpec.ofChange fnDoubleSpec)) fnDoubleCard

/-- THE TIED CARD OF 'laws.FnDoubleMade'. -/
def fnDoubleMadeCard : Claim7 := { stood := { row := fnDoubleMadeRow, standIns := [], harness := (true, "33f1caa3fc3e0f661bace7b9291c4468e5de5f6d3e4dc56793d25346aea58ec2"), looks := false }, kinds := [], alts := [], laidByText := true, laidKinds := [.data], laidTests := true, laidLooks := .later }
def FnDoubleMadeCardSaid : Prop := Claim7.holds Tryd.pinned (.plain (OpenSpec.ofChange fnDoubleMadeSpec)) fnDoubleMadeCard

/-- THE TIED CARD OF 'laws.FnDoubleWord'. -/
def fnDoubleWordCard : Claim7 := { stood := { row := fnDoubleWordRow, standIns := [], harness := (true, "33f1caa3fc3e0f661bace7b9291c4468e5de5f6d3e4dc56793d25346aea58ec2"), looks := false }, kinds := [], alts := [], laidByText := true, laidKinds := [.data, .data], laidTests := true, laidLooks := .later }
def FnDoubleWordCardSaid : Prop := Claim7.holds Tryd.pinned (.plain (OpenSpec.ofChange fnDoubleWordSpec)) fnDoubleWordCard

/-- THE SECOND FORM's CARD OF 'laws.FnWord'. -/
def fnWordUptoCard : Claim7 := { stood := { row := fnWordUptoRow, standIns := [], harness := (true, "33f1caa3fc3e0f661bace7b9291c4468e5de5f6d3e4dc56793d25346aea58ec2"), looks := false }, kinds := [], alts := [], laidByText := true, laidKinds := [.data], laidTests := true, laidLooks := .later }
def FnWordUptoCardSaid : Prop := Claim7.holds Tryd.pinned (.plain (OpenSpec.upto fnWordSpec)) fnWordUptoCard

/-- THE SECOND FORM's CARD OF 'laws.FnWordInverted'. -/
def fnWordInvertedUptoCard : Claim7 := { stood := { row := fnWordInvertedUptoRow, standIns := [], harness := (true, "33f1caa3fc3e0f661bace7b9291c4468e5de5f6d3e4dc56793d25346aea58ec2"), looks := false }, kinds := [], alts := [], laidByText := true, laidKinds := [.data], laidTests := true, laidLooks := .later }
def FnWordInvertedUptoCardSaid : Prop := Claim7.holds Tryd.pinned (.plain (OpenSpec.upto fnWordInvertedSpec)) fnWordInvertedUptoCard

/-- THE SECOND FORM's CARD OF 'laws.FnWordMade'. -/
def fnWordMadeUptoCard : Claim7 := { stood := { row := fnWordMadeUptoRow, standIns := [], harness := (true, "33f1caa3fc3e0f661bace7b9291c4468e5de5f6d3e4dc56793d25346aea58ec2"), looks := false }, kinds := [], alts := [], laidByText := true, laidKinds := [.data], laidTests := true, laidLooks := .later }
def FnWordMadeUptoCardSaid : Prop := Claim7.holds Tryd.pinned (.plain (OpenSpec.upto fnWordMadeSpec)) fnWordMadeUptoCard

/-- THE SECOND FORM's CARD OF 'laws.FnWordOne'. -/
def fnWordOneUptoCard : Claim7 := { stood := { row := fnWordOneUptoRow, standIns := [], harness := (true, "33f1caa3fc3e0f661bace7b9291c4468e5de5f6d3e4dc56793d25346aea58ec2"), looks := false }, kinds := [], alts := [], laidByText := true, laidKinds := [.data], laidTests := true, laidLooks := .later }
def FnWordOneUptoCardSaid : Prop := Claim7.holds Tryd.pinned (.plain (OpenSpec.upto fnWordOneSpec)) fnWordOneUptoCard

/-- THE SECOND FORM's CARD OF 'laws.FnDouble'. -/
def fnDoubleUptoCard : Claim7 := { stood := { row := fnDoubleUptoRow, standIns := [], harness := (true, "33f1caa3fc3e0f661bace7b9291c4468e5de5f6d3e4dc56793d25346aea58ec2"), looks := false }, kinds := [], alts := [], laidByText := true, laidKinds := [.data], laidTests := true, laidLooks := .later }
def FnDoubleUptoCardSaid : Prop := Claim7.holds Tryd.pinned (.plain (OpenSpec.upto fnDoubleSpec)) fnDoubleUptoCard

/-- THE SECOND FORM's CARD OF 'laws.FnDoubleMade'. -/
def fnDoubleMadeUptoCard : Claim7 := { stood := { row := fnDoubleMadeUptoRow, standIns := [], harness := (true, "33f1caa3fc3e0f661bace7b9291c4468e5de5f6d3e4dc56793d25346aea58ec2"), looks := false }, kinds := [], alts := [], laidByText := true, laidKinds := [.data], laidTests := true, laidLooks := .later }
def FnDoubleMadeUptoCardSaid : Prop := Claim7.holds Tryd.pinned (.plain (OpenSpec.upto fnDoubleMadeSpec)) fnDoubleMadeUptoCard

/-- THE SECOND FORM's CARD OF 'laws.FnDoubleWord'. -/
def fnDoubleWordUptoCard : Claim7 := { stood := { row := fnDoubleWordUptoRow, standIns := [], harness := (true, "33f1caa3fc3e0f661bace7b9291c4468e5de5f6d3e4dc56793d25346aea58ec2"), looks := false }, kinds := [], alts := [], laidByText := true, laidKinds := [.data, .data], laidTests := true, laidLooks := .later }
def FnDoubleWordUptoCardSaid : Prop := Claim7.holds Tryd.pinned (.plain (OpenSpec.upto fnDoubleWordSpec)) fnDoubleWordUptoCard
end Rows
end Go.Proofs.YticennjldlbpfaaDoor
