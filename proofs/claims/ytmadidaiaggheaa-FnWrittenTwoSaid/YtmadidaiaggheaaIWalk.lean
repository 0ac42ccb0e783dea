/- The contract of the thin function Walk. -/
import Derived.Test.YtmadidaiaggheaaWalk
import Derived.Deep.RegionHeld3
import Derived.Deep.DrawnRows
namespace Go.Proofs.Ytmadidaiaggheaa
open Go.RowKit
set_option linter.unusedVariables false
attribute [local go_sem ↓] Go.wp_at_zero Go.wp_at_succ

section
variable {w w' : World} {g b B n c : Nat} {A : Option Addr} {pc nxt sc val s : Int} {st dn : Bool} {ps : List (Int × Int)} {tail : List UInt8} {k : Nat}
theorem It.same (h : It w g A n c pc nxt sc val st dn) (e : w'.heap[g]? = w.heap[g]?) : It w' g A n c pc nxt sc val st dn := e.trans h
theorem ItK.same (h : ItK w g b B s ps tail k) (e : w'.heap[g]? = w.heap[g]?) (hs : ∀ o, w'.cell? ⟨b, o, none⟩ = w.cell? ⟨b, o, none⟩) : ItK w' g b B s ps tail k := by
  rcases h with ⟨hk, o, n, c, hI, hsl⟩ | ⟨hk, A, n, c, pc, nx, v, hI⟩
  · refine .inl ⟨hk, o, n, c, hI.same e, hsl.len, hsl.cap, hsl.mx, hsl.nil, ?_⟩
    rcases hsl.rd with h0 | ⟨b', o', e', hb, hc⟩
    · exact .inl h0
    · cases e'
      exact .inr ⟨b, o, rfl, hb, fun j u hu => (hs _).trans (hc j u hu)⟩
  · exact .inr ⟨hk, A, n, c, pc, nx, v, hI.same e⟩
end

def WalkRel (w : World) (g b B mm : Nat) (s : Int) (ps : List (Int × Int)) (tail : List UInt8) (vo vi : Value) (wr : World) : Prop :=
  ∃ k : Nat, vi = .int .i64 k ∧ k ≤ ps.length ∧ k ≤ mm ∧ ItK wr g b B s ps tail k ∧ OwnR wr (g + 1) vo (rangesL s 0 (ps.take k)) ∧ Below w.heap.size w wr ∧ g < wr.heap.size ∧ b < wr.heap.size ∧ vo.ownBlock ≠ some b
def WalkPost (w : World) (rs : List (Int × Int × Int)) (dn : Bool) (e : Ending) (w' : World) : Prop :=
  ∃ v, e = .returned (.tuple #[v, .bool dn]) ∧ OwnR w' w.heap.size v rs ∧ Below w.heap.size w w'

end Go.Proofs.Ytmadidaiaggheaa
