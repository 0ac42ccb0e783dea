/- The walk of the law FnWrittenBehind. -/
import Derived.Test.YtmadidaiaggheaaWrite
import Derived.Test.YtmadidaiaggheaaIsCode
import Derived.Test.YtmadidaiaggheaaPiecesOf
import Derived.Test.YtmadidaiaggheaaLaw
namespace Go.Proofs.Ytmadidaiaggheaa
open Go.RowKit
set_option linter.unusedVariables false

theorem fnWrittenBehind_main (A A1 A2 : Option Addr) (n c n1 c1 n2 c2 : Nat) (pcs before behind : List Int) (size m : Int) (A4 : Option Addr) (n4 c4 : Nat) (other : List Int) (w : World) (hs : Hid (SlN w w.heap.size .i64 A n c pcs)) (h1 : Hid (SlN w w.heap.size .i32 A1 n1 c1 before)) (h2 : Hid (SlN w w.heap.size .i32 A2 n2 c2 behind)) (hn : n ≤ 2147483647) (hn1 : n1 ≤ 2147483647) (hn2 : n2 ≤ 2147483647) (h4 : Hid (SlN w w.heap.size .i32 A4 n4 c4 other)) (hn4 : n4 ≤ 2147483647) (s0 : -9223372036854775808 ≤ size) (s1 : size ≤ 9223372036854775807) :
    Calls Try.prog 7 #[.slice A n c, .int .i64 size, .slice A1 n1 c1, .slice A2 n2 c2, .slice A4 n4 c4, .int .i64 m] w (Lawful w) := by
  go_enter Try.func7, Try.ntmps7
  go_wp2_with fail
  refine (isCode_any A A1 A2 n c n1 c1 n2 c2 pcs before behind size m w hs h1 h2 s0 s1).mono ?_
  rintro e w1 ⟨r, rfl, hr, hb1⟩
  have HB1 := Lib.hid hb1
  cases r
  · clear hr hb1
    go_wp2
    go_ret
    exact ⟨rfl, HB1.out⟩
  have HC := Lib.hid (hr rfl).1
  obtain rfl : n1 = n := by have a := HC.out.nb; have b := hs.out.len; have d := h1.out.len; omega
  obtain rfl : n2 = n1 := by have a := (hr rfl).2; have b := hs.out.len; have d := h2.out.len; omega
  have hm1 := HC.out.m1
  have hm2 := HC.out.m16
  have hz1 := hb1.size
  clear hr hb1
  by_cases hno : n4 = n2
  case neg =>
    have e : ((n4 : Int) != (n2 : Int)) = true := by simp; omega
    clear hno
    go_wp2
    go_ret
    exact ⟨rfl, HB1.out⟩
  subst hno
  go_wp2_with fail
  refine (write_any w.heap.size n4 c c1 c2 A A1 A2 pcs before behind size m w1 (Lib.hid (hs.out.below HB1.out)) (Lib.hid (h1.out.below HB1.out)) (Lib.hid (h2.out.below HB1.out)) hz1 HC hn).mono ?_
  rintro e w2 ⟨A3, n3, c3, rfl, hs3, hb2⟩
  have HS3 := Lib.hid hs3
  have HB2 := Lib.hid (HB1.out.trans (hb2.mono hz1))
  have hz2 := HB2.out.size
  clear hs3 hb2
  have hn3 : 0 < n3 := by have a := HS3.out.len; simp [tableB] at a; omega
  have e3 : decide ((0 : Int) < (n3 : Int)) = true := by simp; omega
  go_wp2_with fail
  refine (write_any w.heap.size n4 c c1 c4 A A1 A4 pcs before other size m w2 (Lib.hid (hs.out.below HB2.out)) (Lib.hid (h1.out.below HB2.out)) (Lib.hid (h4.out.below HB2.out)) hz2 HC hn).mono ?_
  rintro e w3 ⟨A5, n5, c5, rfl, hs5, hb3⟩
  have HS5 := Lib.hid hs5
  have HS3x := Lib.hid (HS3.out.below hb3)
  have HB3 := Lib.hid (HB2.out.trans (hb3.mono hz2))
  clear hs5 hb3
  go_wp2_with fail
  refine (same8_any A3 A5 n3 n5 c3 c5 w2.heap.size w3.heap.size _ w3 HS3x.out HS5.out).mono ?_
  rintro e w4 ⟨rfl, rfl⟩
  go_wp2
  go_ret
  exact ⟨rfl, HB3.out⟩
theorem fnWrittenBehind_walk (A0 : Option Addr) (n0 c0 : Nat) (l0 : List Int) (a1 : Int) (w1 : (Lit.int .i64 a1).wf = true) (A2 : Option Addr) (n2 c2 : Nat) (l2 : List Int) (A3 : Option Addr) (n3 c3 : Nat) (l3 : List Int) (A4 : Option Addr) (n4 c4 : Nat) (l4 : List Int) (a5 : Int) (w5 : (Lit.int .i64 a5).wf = true) (w : World) (s0 : SlN w w.heap.size .i64 A0 n0 c0 l0) (s2 : SlN w w.heap.size .i32 A2 n2 c2 l2) (s3 : SlN w w.heap.size .i32 A3 n3 c3 l3) (s4 : SlN w w.heap.size .i32 A4 n4 c4 l4) :
    Calls Try.prog 7 #[.slice A0 n0 c0, .int .i64 a1, .slice A2 n2 c2, .slice A3 n3 c3, .slice A4 n4 c4, .int .i64 a5] w (Lawful w) := by
  obtain ⟨b0, b1⟩ := bounds_i64 w1
  have m0 := Nat.le_trans s0.cap s0.mx
  have m2 := Nat.le_trans s2.cap s2.mx
  have m3 := Nat.le_trans s3.cap s3.mx
  have m4 := Nat.le_trans s4.cap s4.mx
  have S4 := Lib.hid s4
  have S0 := Lib.hid s0
  have S2 := Lib.hid s2
  have S3 := Lib.hid s3
  clear w1 w5 s0 s2 s3 s4
  by_cases hn : n0 ≤ 2147483647
  case neg =>
    go_enter Try.func7, Try.ntmps7
    go_wp2_with fail
    go_ret
    exact ⟨rfl, Below.refl _ _⟩
  by_cases hn2 : n2 ≤ 2147483647
  case neg =>
    go_enter Try.func7, Try.ntmps7
    go_wp2_with fail
    go_ret
    exact ⟨rfl, Below.refl _ _⟩
  by_cases hn3 : n3 ≤ 2147483647
  case neg =>
    go_enter Try.func7, Try.ntmps7
    go_wp2_with fail
    go_ret
    exact ⟨rfl, Below.refl _ _⟩
  by_cases hn4 : n4 ≤ 2147483647
  case neg =>
    go_enter Try.func7, Try.ntmps7
    go_wp2_with fail
    go_ret
    exact ⟨rfl, Below.refl _ _⟩
  exact fnWrittenBehind_main A0 A2 A3 n0 c0 n2 c2 n3 c3 l0 l2 l3 a1 a5 A4 n4 c4 l4 w S0 S2 S3 hn hn2 hn3 S4 hn4 b0 (by omega)
end Go.Proofs.Ytmadidaiaggheaa
