/- The walk of the law FnRead. -/
import Derived.Test.YtgpmnpimdbejnaaIRead
import Derived.Test.YtgpmnpimdbejnaaSameR
import Derived.Test.YtgpmnpimdbejnaaLaw
namespace Go.Proofs.Ytgpmnpimdbejnaa
open Go.RowKit
set_option linter.unusedVariables false

theorem read_table (A : Option Addr) (n c B : Nat) (s : Int) (ps : List (Int × Int)) (w : World) (HR : RightP ps s) (HOk : ∀ p ∈ ps, PieceOk p) (hs : Sl w B A n c (tableB (-1) ps)) (hB : B ≤ w.heap.size) (hpl : ps.length ≤ 2147483647) :
    Calls Try.prog 18 #[.slice A n c, .int .u32 s] w (GivesR w (rangesL s 0 ps)) :=
  read_any A n c B s ps [] w (Lib.hid HR) (Lib.hid HOk) (Lib.hid hs) hB (Lib.hid (by have := tableB_len (-1) ps HOk; show (tableB (-1) ps).length ≤ _; omega)) hpl

theorem fnRead_main (A : Option Addr) (n c : Nat) (ps : List (Int × Int)) (s : Int) (w : World) (hs : Hid (SlP w w.heap.size A n c ps)) (hn : n ≤ 2147483647) (s0 : 0 ≤ s) (s1 : s < 4294967296) :
    Calls Try.prog 6 #[.slice A n c, .int .u32 s] w (Lawful w) := by
  go_enter Try.func6, Try.ntmps6
  go_wp2_with fail
  refine (right_any A n c ps s w hs s0 s1).mono ?_
  rintro e w1 ⟨r, rfl, hr, hb1⟩
  have HB1 := Lib.hid hb1
  cases r
  · clear hr hb1
    go_wp2
    go_ret
    exact ⟨rfl, HB1.out⟩
  have HR := Lib.hid (hr rfl)
  have hz1 := hb1.size
  have HS1 := Lib.hid (show SlP w1 w1.heap.size A n c ps from (hs.out.below hb1).keep hz1 (fun _ _ _ => rfl))
  clear hr hb1
  go_wp2_with fail
  refine (table_any A n c ps w1 HS1 hn).mono ?_
  rintro e w2 ⟨v2, rfl, hown2, hb2⟩
  obtain ⟨A2, n2, c2, rfl, hs2⟩ := hown2.sl
  have hz2 := hb2.size
  have HS2 := Lib.hid hs2
  have HB2 := Lib.hid (HB1.out.trans (hb2.mono hz1))
  have HP2 := Lib.hid (show SlP w2 w2.heap.size A n c ps from (HS1.out.below hb2).keep hz2 (fun _ _ _ => rfl))
  clear hown2 hs2 hb2
  go_wp2_with fail
  refine (read_table A2 n2 c2 w2.heap.size s ps w2 HR.out hs.out.ok HS2.out (Nat.le_refl _) (by have := hs.out.len; omega)).mono ?_
  rintro e w3 ⟨v3, rfl, hown3, hb3⟩
  have hz3 := hb3.size
  have HO3 := Lib.hid hown3
  have HB3 := Lib.hid (HB2.out.trans (hb3.mono (by omega)))
  have HP3 := Lib.hid (show SlP w3 w3.heap.size A n c ps from (HP2.out.below hb3).keep hz3 (fun _ _ _ => rfl))
  clear hown3 hb3
  go_wp2_with fail
  refine (ranges_any A n c ps s w3 HP3 hn HR).mono ?_
  rintro e w4 ⟨v4, rfl, hown4, hb4⟩
  have hz4 := hb4.size
  obtain ⟨A4, n4, c4, rfl, hs4⟩ := hown4.sl
  obtain ⟨A3, n3, c3, rfl, hs3⟩ := (HO3.out.below hb4).sl
  have HS3 := Lib.hid hs3
  have HS4 := Lib.hid hs4
  have HB4 := Lib.hid (HB3.out.trans (hb4.mono (by omega)))
  clear hown4 hs4 hs3 hb4
  go_wp2_with fail
  refine (sameR_any A3 A4 n3 n4 c3 c4 _ w4 HS3.out HS4.out).mono ?_
  rintro e w5 ⟨rfl, hb5⟩
  have HB5 := Lib.hid (HB4.out.trans (hb5.mono (by omega)))
  clear hb5
  go_wp2
  go_ret
  exact ⟨rfl, HB5.out⟩
theorem fnRead_walk (A0 : Option Addr) (n0 c0 : Nat) (l0 : List (Int × Int)) (a1 : Int) (w1 : (Lit.int .u32 a1).wf = true) (w : World) (s0 : SlP w w.heap.size A0 n0 c0 l0) :
    Calls Try.prog 6 #[.slice A0 n0 c0, .int .u32 a1] w (Lawful w) := by
  obtain ⟨q0, q1⟩ := bounds_u32 w1
  have hm := s0.mx
  have hc := s0.cap
  by_cases hn : n0 ≤ 2147483647
  · exact fnRead_main A0 n0 c0 l0 a1 w (Lib.hid s0) hn q0 (by omega)
  · clear s0 w1
    go_enter Try.func6, Try.ntmps6
    go_wp2_with fail
    go_ret
    exact ⟨rfl, Below.refl _ _⟩
end Go.Proofs.Ytgpmnpimdbejnaa
