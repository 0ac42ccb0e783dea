/- What a law leaves. -/
import Derived.Test.YtmadidaiaggheaaMem
namespace Go.Proofs.Ytmadidaiaggheaa
open Go.RowKit

def Lawful (w : World) (e : Ending) (w' : World) : Prop := e = .returned (.bool true) ∧ Below w.heap.size w w'
end Go.Proofs.Ytmadidaiaggheaa
