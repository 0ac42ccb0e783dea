/- The contract of the thin function Write. -/
import Derived.Test.YtmadidaiaggheaaZTab
namespace Go.Proofs.Ytmadidaiaggheaa
open Go.RowKit
set_option linter.unusedVariables false

theorem write_any (B n c c1 c2 : Nat) (A A1 A2 : Option Addr) (pcs before behind : List Int) (size m : Int) (w : World) (hs : Hid (SlN w B .i64 A n c pcs)) (h1 : Hid (SlN w B .i32 A1 n c1 before)) (h2 : Hid (SlN w B .i32 A2 n c2 behind)) (hB : B ≤ w.heap.size)
    (HC : Hid (Code pcs size before m)) (hn : n ≤ 2147483647) :
    Calls Try.prog 11 #[.slice A n c, .int .i64 size, .slice A1 n c1, .slice A2 n c2, .int .i64 m] w (Reads8 w (tableB (-1) (piecesOf pcs size before m))) := by
  have HL : Hid ((tableB (-1) (piecesOf pcs size before m)).length ≤ 70368744177664) := Lib.hid (by
    have a := tableB_len (-1) _ (piecesOf_ok HC.out)
    have b := piecesOf_len HC.out
    have d := hs.out.len
    omega)
  go_enter Try.func11, Try.ntmps11
  go_wp2_with fail
  refine (clone64_any A n c B pcs w hs hB hn).mono ?_
  rintro e w1 ⟨A3, n3, c3, rfl, hs3, hb1⟩
  obtain rfl : n3 = n := by rw [← hs3.len]; exact hs.out.len
  have HS3 := Lib.hid hs3
  have HB1 := Lib.hid hb1
  have hz1 := hb1.size
  have H11 := Lib.hid (h1.out.below (hb1.mono hB))
  clear hs3 hb1
  go_wp2_with fail
  refine (clone32_any A1 n3 c1 B before w1 H11 (by omega) hn).mono ?_
  rintro e w2 ⟨A4, n4, c4, rfl, hs4, hb2⟩
  obtain rfl : n4 = n3 := by rw [← hs4.len]; exact h1.out.len
  have HS4 := Lib.hid hs4
  have HS3' := Lib.hid ((HS3.out.below hb2).more hb2.size)
  have HB2 := Lib.hid (HB1.out.trans (hb2.mono hz1))
  have hz2 := hb2.size
  have H22 := Lib.hid (h2.out.below (HB2.out.mono hB))
  clear hs4 hb2
  go_wp2_with fail
  refine (clone32_any A2 n4 c2 B behind w2 H22 (by omega) hn).mono ?_
  rintro e w3 ⟨A5, n5, c5, rfl, hs5, hb3⟩
  obtain rfl : n5 = n4 := by rw [← hs5.len]; exact h2.out.len
  have HS5 := Lib.hid hs5
  have HS3'' := Lib.hid ((HS3'.out.below hb3).more hb3.size)
  have HS4'' := Lib.hid ((HS4.out.below hb3).more hb3.size)
  have HB3 := Lib.hid (HB2.out.trans (hb3.mono (by omega)))
  clear hs5 hb3
  go_wp2_with fail
  refine (zztable_any w3.heap.size n5 c3 c4 c5 A3 A4 A5 pcs before behind size m w3 HS3'' HS4'' HS5 (Nat.le_refl _) HC hn).mono ?_
  rintro e w4 ⟨v4, rfl, hown4, hb4⟩
  obtain ⟨A6, n6, c6, rfl, hs6⟩ := hown4.sl
  have HS6 := Lib.hid hs6
  have HB4 := Lib.hid (HB3.out.trans (hb4.mono HB3.out.size))
  clear hown4 hs6 hb4
  go_wp2_with fail
  refine (clone8_any A6 n6 c6 w4.heap.size _ w4 HS6.out (Nat.le_refl _) HL.out).mono ?_
  rintro e w5 ⟨A7, n7, c7, rfl, hs7, hb5⟩
  have HS7 := Lib.hid hs7
  have HB5 := Lib.hid (HB4.out.trans (hb5.mono HB4.out.size))
  clear hs7 hb5
  go_wp2
  go_ret
  exact ⟨A7, n7, c7, rfl, HS7.out, HB5.out⟩
end Go.Proofs.Ytmadidaiaggheaa
