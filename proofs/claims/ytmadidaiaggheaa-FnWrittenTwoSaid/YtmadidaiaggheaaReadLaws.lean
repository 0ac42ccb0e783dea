/- The walk of the law FnRead. -/
import Derived.Test.YtmadidaiaggheaaIRead
import Derived.Test.YtmadidaiaggheaaSameR
import Derived.Test.YtmadidaiaggheaaLaw
namespace Go.Proofs.Ytmadidaiaggheaa
open Go.RowKit
set_option linter.unusedVariables false

theorem read_table (A : Option Addr) (n c B : Nat) (s : Int) (ps : List (Int × Int)) (w : World) (HR : RightP ps s) (HOk : ∀ p ∈ ps, PieceOk p) (hs : Sl w B A n c (tableB (-1) ps)) (hB : B ≤ w.heap.size) (hpl : ps.length ≤ 2147483647) :
    Calls Try.prog 10 #[.slice A n c, .int .u32 s] w (GivesR w (rangesL s 0 ps)) :=
  read_any A n c B s ps [] w (Lib.hid HR) (Lib.hid HOk) (Lib.hid hs) hB (Lib.hid (by have := tableB_len (-1) ps HOk; show (tableB (-1) ps).length ≤ _; omega)) hpl

end Go.Proofs.Ytmadidaiaggheaa
