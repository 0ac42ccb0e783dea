/- What a law leaves. -/
import Derived.Test.YtgpmnpimdbejnaaMem
namespace Go.Proofs.Ytgpmnpimdbejnaa
open Go.RowKit

def Lawful (w : World) (e : Ending) (w' : World) : Prop := e = .returned (.bool true) ∧ Below w.heap.size w w'
end Go.Proofs.Ytgpmnpimdbejnaa
