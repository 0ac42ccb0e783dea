/- What a law leaves. -/
import Derived.Test.YtmnjcngjhpdmeaaMem
namespace Go.Proofs.Ytmnjcngjhpdmeaa
open Go.RowKit

def Lawful (w : World) (e : Ending) (w' : World) : Prop := e = .returned (.bool true) ∧ Below w.heap.size w w'
end Go.Proofs.Ytmnjcngjhpdmeaa
