/-
  DERIVED. GIVEN WITH THE SEED: THE CARDS: each row of YteohmffbehbjpaaDoorRows.lean that lists a variable, with what it lists TIED to the program's text (the seventh form; the later family's looks); each row that meets fmt, with fmt's text TOLD by the authors' own Lean function (tested against real Go, not proved from fmt's source: count such statements apart). THE CARD IS WHAT COUNTS. Prove the row's statement (the work); the ties are given (YteohmffbehbjpaaDoorTie.lean); close each card by the builder's one call (the guide's Derived/Test/ToyasCard.lean, 'card_holds'). Laid BY PROGRAM, IN A SANDBOX (cutbox-door.mjs). By AI agents, Wed Nov 11 2026. No macro, syntax, notation, axiom, sorry.
-/
import Derived.Test.YteohmffbehbjpaaDoorRows
import GoSem.ClaimSeven
namespace Go.Proofs.YteohmffbehbjpaaDoor
namespace Rows

/-- THE TIED CARD OF 'laws.FnBounds'. -/
def fnBoundsCard : Claim7 := { stood := { row := fnBoundsRow, standIns := [], harness := (true, "d2831738f6d623eb67177b16cd7214070f9cf7c2fda3a2db88f0fc795d8b970f"), looks := false }, kinds := [], alts := [], laidByText := true, laidKinds := [.data], laidTests := true, laidLooks := .later }
def FnBoundsCardSaid : Prop := Claim7.holds Tryd.pinned (.plain (OpenSpec.ofChange fnBoundsSpec)) fnBoundsCard

/-- THE TIED CARD OF 'laws.FnBoundsMade'. -/
def fnBoundsMadeCard : Claim7 := { stood := { row := fnBoundsMadeRow, standIns := [], harness := (true, "d2831738f6d623eb67177b16cd7214070f9cf7c2fda3a2db88f0fc795d8b970f"), looks := false }, kinds := [], alts := [], laidByText := true, laidKinds := [.data], laidTests := true, laidLooks := .later }
def FnBoundsMadeCardSaid : Prop := Claim7.holds Tryd.pinned (.plain (OpenSpec.ofChange fnBoundsMadeSpec)) fnBoundsMadeCard

/-- THE TIED CARD OF 'laws.FnBoundsTurned'. -/
def fnBoundsTurnedCard : Claim7 := { stood := { row := fnBoundsTurnedRow, standIns := [], harness := (true, "d2831738f6d623eb67177b16cd7214070f9cf7c2fda3a2db88f0fc795d8b970f"), looks := false }, kinds := [], alts := [], laidByText := true, laidKinds := [.data], laidTests := true, laidLooks := .later }
def FnBoundsTurnedCardSaid : Prop := Claim7.holds Tryd.pinned (.plain (OpenSpec.ofChange fnBoundsTurnedSpec)) fnBoundsTurnedCard

/-- THE TIED CARD OF 'laws.FnBoundsBoth'. -/
def fnBoundsBothCard : Claim7 := { stood := { row := fnBoundsBothRow, standIns := [], harness := (true, "d2831738f6d623eb67177b16cd7214070f9cf7c2fda3a2db88f0fc795d8b970f"), looks := false }, kinds := [], alts := [], laidByText := true, laidKinds := [.data], laidTests := true, laidLooks := .later }
def FnBoundsBothCardSaid : Prop := Claim7.holds Tryd.pinned (.plain (OpenSpec.ofChange fnBoundsBothSpec)) fnBoundsBothCard

/-- THE SECOND FORM's CARD OF 'laws.FnBounds'. -/
def fnBoundsUptoCard : Claim7 := { stood := { row := fnBoundsUptoRow, standIns := [], harness := (true, "d2831738f6d623eb67177b16cd7214070f9cf7c2fda3a2db88f0fc795d8b970f"), looks := false }, kinds := [], alts := [], laidByText := true, laidKinds := [.data], laidTests := true, laidLooks := .later }
def FnBoundsUptoCardSaid : Prop := Claim7.holds Tryd.pinned (.plain (OpenSpec.upto fnBoundsSpec)) fnBoundsUptoCard

/-- THE SECOND FORM's CARD OF 'laws.FnBoundsMade'. -/
def fnBoundsMadeUptoCard : Claim7 := { stood := { row := fnBoundsMadeUptoRow, standIns := [], harness := (true, "d2831738f6d623eb67177b16cd7214070f9cf7c2fda3a2db88f0fc795d8b970f"), looks := false }, kinds := [], alts := [], laidByText := true, laidKinds := [.data], laidTests := true, laidLooks := .later }
def FnBoundsMadeUptoCardSaid : Prop := Claim7.holds Tryd.pinned (.plain (OpenSpec.upto fnBoundsMadeSpec)) fnBoundsMadeUptoCard

/-- THE SECOND FORM's CARD OF 'laws.FnBoundsTurned'. -/
def fnBoundsTurnedUptoCard : Claim7 := { stood := { row := fnBoundsTurnedUptoRow, standIns := [], harness := (true, "d2831738f6d623eb67177b16cd7214070f9cf7c2fda3a2db88f0fc795d8b970f"), looks := false }, kinds := [], alts := [], laidByText := true, laidKinds := [.data], laidTests := true, laidLooks := .later }
def FnBoundsTurnedUptoCardSaid : Prop := Claim7.holds Tryd.pinned (.plain (OpenSpec.upto fnBoundsTurnedSpec)) fnBoundsTurnedUptoCard

/-- THE SECOND FORM's CARD OF 'laws.FnBoundsBoth'. -/
def fnBoundsBothUptoCard : Claim7 := { stood := { row := fnBoundsBothUptoRow, standIns := [], harness := (true, "d2831738f6d623eb67177b16cd7214070f9cf7c2fda3a2db88f0fc795d8b970f"), looks := false }, kinds := [], alts := [], laidByText := true, laidKinds := [.data], laidTests := true, laidLooks := .later }
def FnBoundsBothUptoCardSaid : Prop := Claim7.holds Tryd.pinned (.plain (OpenSpec.upto fnBoundsBothSpec)) fnBoundsBothUptoCard
end Rows
end Go.Proofs.YteohmffbehbjpaaDoor
