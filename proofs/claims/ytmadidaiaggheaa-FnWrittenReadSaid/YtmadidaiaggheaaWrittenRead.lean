/- The walk of the law FnWrittenRead. -/
import Derived.Test.YtmadidaiaggheaaWrite
import Derived.Test.YtmadidaiaggheaaIsCode
import Derived.Test.YtmadidaiaggheaaPiecesOf
import Derived.Test.YtmadidaiaggheaaLaw
import Derived.Test.YtmadidaiaggheaaReadLaws
import Derived.Test.YtmadidaiaggheaaSameR
namespace Go.Proofs.Ytmadidaiaggheaa
open Go.RowKit
set_option linter.unusedVariables false

theorem fnWrittenRead_main (A A1 A2 : Option Addr) (n c n1 c1 n2 c2 : Nat) (pcs before behind : List Int) (size m : Int) (w : World) (hs : Hid (SlN w w.heap.size .i64 A n c pcs)) (h1 : Hid (SlN w w.heap.size .i32 A1 n1 c1 before)) (h2 : Hid (SlN w w.heap.size .i32 A2 n2 c2 behind)) (hn : n ≤ 2147483647) (hn1 : n1 ≤ 2147483647) (hn2 : n2 ≤ 2147483647) (s0 : -9223372036854775808 ≤ size) (s1 : size ≤ 9223372036854775807) :
    Calls Try.prog 4 #[.slice A n c, .int .i64 size, .slice A1 n1 c1, .slice A2 n2 c2, .int .i64 m] w (Lawful w) := by
  go_enter Try.func4, Try.ntmps4
  go_wp2_with fail
  refine (isCode_any A A1 A2 n c n1 c1 n2 c2 pcs before behind size m w hs h1 h2 s0 s1).mono ?_
  rintro e w1 ⟨r, rfl, hr, hb1⟩
  have HB1 := Lib.hid hb1
  cases r
  · clear hr hb1
    go_wp2
    go_ret
    exact ⟨rfl, HB1.out⟩
  have HC := Lib.hid (hr rfl).1
  obtain rfl : n1 = n := by have a := HC.out.nb; have b := hs.out.len; have d := h1.out.len; omega
  obtain rfl : n2 = n1 := by have a := (hr rfl).2; have b := hs.out.len; have d := h2.out.len; omega
  have hm1 := HC.out.m1
  have hm2 := HC.out.m16
  have hz1 := hb1.size
  clear hr hb1
  go_wp2_with fail
  refine (write_any w.heap.size n2 c c1 c2 A A1 A2 pcs before behind size m w1 (Lib.hid (hs.out.below HB1.out)) (Lib.hid (h1.out.below HB1.out)) (Lib.hid (h2.out.below HB1.out)) hz1 HC hn).mono ?_
  rintro e w2 ⟨A3, n3, c3, rfl, hs3, hb2⟩
  have HS3 := Lib.hid hs3
  have HB2 := Lib.hid (HB1.out.trans (hb2.mono hz1))
  have hz2 := HB2.out.size
  clear hs3 hb2
  have HRt := Lib.hid (piecesOf_right HC.out)
  have HOk := Lib.hid (piecesOf_ok HC.out)
  have HPl : Hid ((piecesOf pcs size before m).length ≤ 2147483647) := Lib.hid (by have a := piecesOf_len HC.out; have b := hs.out.len; omega)
  go_wp2_with fail
  refine (read_table A3 n3 c3 w2.heap.size m _ w2 HRt.out HOk.out HS3.out (Nat.le_refl _) HPl.out).mono ?_
  rintro e w3 ⟨v3, rfl, hown3, hb3⟩
  have HO3 := Lib.hid hown3
  have HB3 := Lib.hid (HB2.out.trans (hb3.mono hz2))
  clear hown3 hb3
  go_wp2_with fail
  refine (pieces_any A A1 n2 c c1 pcs before size m w3 (Lib.hid ((hs.out.below HB3.out).more HB3.out.size)) (Lib.hid ((h1.out.below HB3.out).more HB3.out.size)) HC hn).mono ?_
  rintro e w4 ⟨vp, rfl, hownp, hb4⟩
  obtain ⟨Ap, np, cp, rfl, hsp⟩ := hownp.slp (piecesOf_ok HC.out)
  have hnp : np ≤ 2147483647 := by have a := piecesOf_len HC.out; have b := hs.out.len; have d := hsp.len; omega
  have HSP := Lib.hid hsp
  have HB4 := Lib.hid (HB3.out.trans (hb4.mono HB3.out.size))
  have HO3x := Lib.hid (HO3.out.below hb4)
  clear hownp hsp hb4
  go_wp2_with fail
  refine (ranges_any Ap np cp _ m w4 HSP hnp HRt).mono ?_
  rintro e w5 ⟨v5, rfl, hown5, hb5⟩
  obtain ⟨A5, n5, c5, rfl, hs5⟩ := hown5.sl
  obtain ⟨A6, n6, c6, rfl, hs6⟩ := (HO3x.out.below hb5).sl
  have HS5 := Lib.hid hs5
  have HS6 := Lib.hid hs6
  have HB5 := Lib.hid (HB4.out.trans (hb5.mono HB4.out.size))
  clear hown5 hs5 hs6 hb5
  go_wp2_with fail
  refine (sameR_any A6 A5 n6 n5 c6 c5 _ w5 HS6.out HS5.out).mono ?_
  rintro e w6 ⟨rfl, hb6⟩
  have HB6 := Lib.hid (HB5.out.trans (hb6.mono HB5.out.size))
  clear hb6
  go_wp2
  go_ret
  exact ⟨rfl, HB6.out⟩
theorem fnWrittenRead_walk (A0 : Option Addr) (n0 c0 : Nat) (l0 : List Int) (a1 : Int) (w1 : (Lit.int .i64 a1).wf = true) (A2 : Option Addr) (n2 c2 : Nat) (l2 : List Int) (A3 : Option Addr) (n3 c3 : Nat) (l3 : List Int) (a4 : Int) (w4 : (Lit.int .i64 a4).wf = true) (w : World) (s0 : SlN w w.heap.size .i64 A0 n0 c0 l0) (s2 : SlN w w.heap.size .i32 A2 n2 c2 l2) (s3 : SlN w w.heap.size .i32 A3 n3 c3 l3) :
    Calls Try.prog 4 #[.slice A0 n0 c0, .int .i64 a1, .slice A2 n2 c2, .slice A3 n3 c3, .int .i64 a4] w (Lawful w) := by
  obtain ⟨b0, b1⟩ := bounds_i64 w1
  have m0 := Nat.le_trans s0.cap s0.mx
  have m2 := Nat.le_trans s2.cap s2.mx
  have m3 := Nat.le_trans s3.cap s3.mx
  have S0 := Lib.hid s0
  have S2 := Lib.hid s2
  have S3 := Lib.hid s3
  clear w1 w4 s0 s2 s3
  by_cases hn : n0 ≤ 2147483647
  case neg =>
    go_enter Try.func4, Try.ntmps4
    go_wp2_with fail
    go_ret
    exact ⟨rfl, Below.refl _ _⟩
  by_cases hn2 : n2 ≤ 2147483647
  case neg =>
    go_enter Try.func4, Try.ntmps4
    go_wp2_with fail
    go_ret
    exact ⟨rfl, Below.refl _ _⟩
  by_cases hn3 : n3 ≤ 2147483647
  case neg =>
    go_enter Try.func4, Try.ntmps4
    go_wp2_with fail
    go_ret
    exact ⟨rfl, Below.refl _ _⟩
  exact fnWrittenRead_main A0 A2 A3 n0 c0 n2 c2 n3 c3 l0 l2 l3 a1 a4 w S0 S2 S3 hn hn2 hn3 b0 (by omega)
end Go.Proofs.Ytmadidaiaggheaa
