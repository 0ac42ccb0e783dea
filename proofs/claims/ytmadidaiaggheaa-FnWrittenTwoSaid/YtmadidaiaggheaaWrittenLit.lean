/- Rows of numbers that the law itself lays, and plain facts of functions of one and of two instructions. -/
import Derived.Test.YtmadidaiaggheaaNumsR
import Derived.Test.YtmadidaiaggheaaPlW
import Derived.Test.YtmadidaiaggheaaIter
namespace Go.Proofs.Ytmadidaiaggheaa
open Go.RowKit
set_option linter.unusedVariables false

theorem sln_row (W : World) (g n : Nat) (k : IntKind) (zs : List Int) (t : TypeId) (B : Nat) (h : W.heap[g]? = some (.cells (zs.map (Value.int k)).toArray t (0, 0))) (hn : zs.length = n) (hmx : n ≤ 9223372036854775807) (hw : ∀ z ∈ zs, (Lit.int k z).wf = true) (hB : g < B) :
    SlN W B k (some ⟨g, 0, none⟩) n n zs := by
  refine ⟨hn, Nat.le_refl _, hmx, fun e => (by cases e), .inr ⟨g, 0, rfl, hB, fun j u hu => ?_⟩, hw⟩
  rw [Nat.zero_add, cell_of_row _ _ j _ _ _ h]
  simpa using hu

theorem one_code (size v : Int) (h1 : 1 ≤ size) (h2 : size < 2147483648) (hv : inI32 v) : Code [0] size [v] 1 := by
  refine ⟨by simp, rfl, by omega, by omega, rfl, fun i hi => ?_, ?_, h2, fun i hi => Int.emod_one _, fun z hz => ?_⟩
  · obtain rfl : i = 0 := by simpa using hi
    show (0 : Int) ≤ size
    omega
  · show (0 : Int) < size
    omega
  · simp at hz; subst hz; exact hv
theorem one_pieces (size v : Int) (h1 : 1 ≤ size) : piecesOf [0] size [v] 1 = [(v, size)] := by
  show addP [] v ((size - 0) / 1) = _
  rw [Int.sub_zero, Int.ediv_one, addP_nil (by omega)]
theorem two_code (at_ size one two : Int) (h1 : 1 ≤ at_) (h2 : at_ < size) (h3 : size < 2147483648) (hv1 : inI32 one) (hv2 : inI32 two) : Code [0, at_] size [one, two] 1 := by
  refine ⟨by simp, rfl, by omega, by omega, rfl, fun i hi => ?_, ?_, h3, fun i hi => Int.emod_one _, fun z hz => ?_⟩
  · match i, hi with
    | 0, _ => show (0 : Int) ≤ at_; omega
    | 1, _ => show at_ ≤ size; omega
    | i + 2, hi => simp at hi; omega
  · show at_ < size
    exact h2
  · simp at hz; rcases hz with rfl | rfl
    · exact hv1
    · exact hv2
theorem two_same (at_ size v : Int) (h1 : 1 ≤ at_) (h2 : at_ < size) : piecesOf [0, at_] size [v, v] 1 = [(v, size)] := by
  show addP (addP [] v ((at_ - 0) / 1)) v ((size - at_) / 1) = _
  rw [Int.sub_zero, Int.ediv_one, Int.ediv_one, addP_nil (by omega)]
  have h := addP_same (ps := []) (v := v) (l := at_) (long := size - at_) (by omega)
  simp only [List.nil_append] at h
  rw [h, show at_ + (size - at_) = size by omega]
theorem two_parted (at_ size one two : Int) (h1 : 1 ≤ at_) (h2 : at_ < size) (hne : one ≠ two) : piecesOf [0, at_] size [one, two] 1 = [(one, at_), (two, size - at_)] := by
  show addP (addP [] one ((at_ - 0) / 1)) two ((size - at_) / 1) = _
  rw [Int.sub_zero, Int.ediv_one, Int.ediv_one, addP_nil (by omega)]
  have h := addP_new (ps := []) (x := one) (v := two) (l := at_) (long := size - at_) (by omega) hne
  simp only [List.nil_append] at h
  rw [h]
  rfl
end Go.Proofs.Ytmadidaiaggheaa
