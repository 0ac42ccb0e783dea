/- The walk of the law FnReadOne. -/
import Derived.Test.YtgpmnpimdbejnaaReadLaws
namespace Go.Proofs.Ytgpmnpimdbejnaa
open Go.RowKit
set_option linter.unusedVariables false

theorem fnReadOne_main (v l : Int) (w : World) (v0 : -2147483648 ≤ v) (v1 : v ≤ 2147483647) (l0 : 1 ≤ l) (l1 : l < 4294967296) (e1 : (l == 0) = false) :
    Calls Try.prog 9 #[.int .i32 v, .int .u32 l] w (Lawful w) := by
  have hok : ∀ p ∈ [(v, l)], PieceOk p := fun p hp => by simp at hp; subst hp; exact ⟨⟨v0, v1⟩, by show 0 ≤ l; omega, l1⟩
  have HOk := Lib.hid hok
  have HR := Lib.hid (show RightP [(v, l)] 1 from ⟨l0, trivial, by omega, by show (l + 0) * 1 < _; omega⟩)
  have HS0 := Lib.hid (show SlP (w.alloc (.cells #[.int .i32 v, .int .u32 l] 42)) (w.alloc (.cells #[.int .i32 v, .int .u32 l] 42)).heap.size (some ⟨w.heap.size, 0, none⟩) 1 1 [(v, l)] by
    refine ⟨rfl, Nat.le_refl _, by omega, (fun e => by cases e), .inr ⟨w.heap.size, 0, rfl, by simp, fun j u hu => ?_⟩, hok⟩
    rw [Nat.zero_add, cell_of_row _ _ j _ _ _ (heap_alloc_new w _)]
    simpa [pcells] using hu)
  clear hok
  go_enter Try.func9, Try.ntmps9
  go_wp2_with fail
  refine (table_any (some ⟨w.heap.size, 0, none⟩) 1 1 [(v, l)] _ HS0 (by omega)).mono ?_
  rintro e w2 ⟨v2, rfl, hown2, hb2⟩
  obtain ⟨A2, n2, c2, rfl, hs2⟩ := hown2.sl
  have hz2 := hb2.size
  simp at hz2
  have HS2 := Lib.hid hs2
  have HB2 := Lib.hid (show Below w.heap.size w w2 from ((Below.refl _ _).alloc (Nat.le_refl _) _).trans (hb2.mono (by simp)))
  clear hown2 hs2 hb2
  go_wp2_with fail
  refine (read_table A2 n2 c2 w2.heap.size 1 [(v, l)] w2 HR.out HOk.out HS2.out (Nat.le_refl _) (by simp)).mono ?_
  rintro e w3 ⟨v3, rfl, hown3, hb3⟩
  obtain ⟨A3, n3, c3, rfl, hs3⟩ := hown3.sl
  have hn3 : n3 = 1 := hs3.len.symm
  subst hn3
  obtain ⟨b, o, rfl, _, hcell⟩ := hs3.at_ (by omega)
  obtain ⟨p1, p2, p3⟩ := hcell 0 (by rw [rangesL_len]; simp)
  simp only [rangesL, List.getElem_cons_zero, Nat.zero_mul, Nat.add_zero, Int.zero_add, Int.mul_one] at p1 p2 p3
  have HB3 := Lib.hid (HB2.out.trans (hb3.mono (by omega)))
  clear hown3 hs3 hb3 hcell
  go_wp2
  go_ret
  exact ⟨rfl, HB3.out⟩
theorem fnReadOne_walk (a0 : Int) (w0 : (Lit.int .i32 a0).wf = true) (a1 : Int) (w1 : (Lit.int .u32 a1).wf = true) (w : World) :
    Calls Try.prog 9 #[.int .i32 a0, .int .u32 a1] w (Lawful w) := by
  obtain ⟨b0, b1⟩ := bounds_i32 w0
  obtain ⟨q0, q1⟩ := bounds_u32 w1
  clear w0 w1
  by_cases h : a1 = 0
  · subst h
    go_enter Try.func9, Try.ntmps9
    go_wp2_with fail
    go_ret
    exact ⟨rfl, Below.refl _ _⟩
  · exact fnReadOne_main a0 a1 w b0 b1 (by omega) (by omega) (by simpa using h)
end Go.Proofs.Ytgpmnpimdbejnaa
