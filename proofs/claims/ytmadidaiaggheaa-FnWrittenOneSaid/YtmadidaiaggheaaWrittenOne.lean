/- The walk of the law FnWrittenOne. -/
import Derived.Test.YtmadidaiaggheaaWrite
import Derived.Test.YtmadidaiaggheaaReadLaws
import Derived.Test.YtmadidaiaggheaaWrittenLit
import Derived.Test.YtmadidaiaggheaaLaw
namespace Go.Proofs.Ytmadidaiaggheaa
open Go.RowKit
set_option linter.unusedVariables false

set_option maxHeartbeats 2000000 in
theorem fnWrittenOne_main (size before behind : Int) (w : World) (s0 : 1 ≤ size) (s1 : size < 2147483648) (v0 : -2147483648 ≤ before) (v1 : before ≤ 2147483647) (x0 : (Lit.int .i32 before).wf = true) (x1 : (Lit.int .i32 behind).wf = true) :
    Calls Try.prog 3 #[.int .i64 size, .int .i32 before, .int .i32 behind] w (Lawful w) := by
  have z1 : (w.alloc (.cells #[.int .i64 0] 2)).heap.size = w.heap.size + 1 := by simp
  have z2 : ((w.alloc (.cells #[.int .i64 0] 2)).alloc (.cells #[.int .i32 before] 21)).heap.size = w.heap.size + 1 + 1 := by simp
  have z3 : (((w.alloc (.cells #[.int .i64 0] 2)).alloc (.cells #[.int .i32 before] 21)).alloc (.cells #[.int .i32 behind] 21)).heap.size = w.heap.size + 1 + 1 + 1 := by simp
  have HCd := Lib.hid (one_code size before s0 s1 ⟨v0, v1⟩)
  have HSa : Hid (SlN (((w.alloc (.cells #[.int .i64 0] 2)).alloc (.cells #[.int .i32 before] 21)).alloc (.cells #[.int .i32 behind] 21)) (w.heap.size + 1 + 1 + 1) .i64 (some ⟨w.heap.size, 0, none⟩) 1 1 [0]) := Lib.hid (sln_row _ _ _ .i64 [0] 2 _ (by
    have h := heap_alloc_new w (.cells #[.int .i64 0] 2)
    rw [← Below.heap_alloc (w.alloc (.cells #[.int .i64 0] 2)) (.cells #[.int .i32 before] 21) _ (by omega), ← Below.heap_alloc ((w.alloc (.cells #[.int .i64 0] 2)).alloc (.cells #[.int .i32 before] 21)) (.cells #[.int .i32 behind] 21) _ (by omega)] at h
    exact h) rfl (by omega) (by intro z hz; simp at hz; subst hz; decide) (by omega))
  have HSb : Hid (SlN (((w.alloc (.cells #[.int .i64 0] 2)).alloc (.cells #[.int .i32 before] 21)).alloc (.cells #[.int .i32 behind] 21)) (w.heap.size + 1 + 1 + 1) .i32 (some ⟨w.heap.size + 1, 0, none⟩) 1 1 [before]) := Lib.hid (sln_row _ _ _ .i32 [before] 21 _ (by
    have h := heap_alloc_new (w.alloc (.cells #[.int .i64 0] 2)) (.cells #[.int .i32 before] 21)
    rw [← Below.heap_alloc ((w.alloc (.cells #[.int .i64 0] 2)).alloc (.cells #[.int .i32 before] 21)) (.cells #[.int .i32 behind] 21) _ (by omega), z1] at h
    exact h) rfl (by omega) (by intro z hz; simp at hz; subst hz; exact x0) (by omega))
  have HSc : Hid (SlN (((w.alloc (.cells #[.int .i64 0] 2)).alloc (.cells #[.int .i32 before] 21)).alloc (.cells #[.int .i32 behind] 21)) (w.heap.size + 1 + 1 + 1) .i32 (some ⟨w.heap.size + 1 + 1, 0, none⟩) 1 1 [behind]) := Lib.hid (sln_row _ _ _ .i32 [behind] 21 _ (by
    have h := heap_alloc_new ((w.alloc (.cells #[.int .i64 0] 2)).alloc (.cells #[.int .i32 before] 21)) (.cells #[.int .i32 behind] 21)
    rw [z2] at h
    exact h) rfl (by omega) (by intro z hz; simp at hz; subst hz; exact x1) (by omega))
  have HBx : Hid (Below w.heap.size w (((w.alloc (.cells #[.int .i64 0] 2)).alloc (.cells #[.int .i32 before] 21)).alloc (.cells #[.int .i32 behind] 21))) := Lib.hid ((((Below.refl _ _).alloc (Nat.le_refl _) _).alloc (by omega) _).alloc (by omega) _)
  have HZ3 := Lib.hid z3
  clear z1 z2 z3 x0 x1 v0 v1
  go_enter Try.func3, Try.ntmps3
  go_wp2_with fail
  refine (write_any (w.heap.size + 1 + 1 + 1) 1 1 1 1 _ _ _ [0] [before] [behind] size 1 _ HSa HSb HSc (by rw [HZ3.out]; exact Nat.le_refl _) HCd (by omega)).mono ?_
  rintro e w2 ⟨A2, n2, c2, rfl, hs2, hb2⟩
  have HS2 := Lib.hid hs2
  have HB2 := Lib.hid (HBx.out.trans (hb2.mono HBx.out.size))
  have HRt := Lib.hid (piecesOf_right HCd.out)
  have HOk := Lib.hid (piecesOf_ok HCd.out)
  have HLn := Lib.hid (piecesOf_len HCd.out)
  clear hs2 hb2
  go_wp2_with fail
  refine (read_table A2 n2 c2 w2.heap.size 1 _ w2 HRt.out HOk.out HS2.out (Nat.le_refl _) (Nat.le_trans HLn.out (by decide))).mono ?_
  rintro e w3 ⟨v3, rfl, hown3, hb3⟩
  have HB3 := Lib.hid (HB2.out.trans (hb3.mono HB2.out.size))
  rw [one_pieces size before s0] at hown3
  obtain ⟨A3, n3, c3, rfl, hs3⟩ := hown3.sl
  obtain rfl : n3 = 1 := hs3.len.symm
  obtain ⟨b, o, rfl, _, hcell⟩ := hs3.at_ (by omega)
  obtain ⟨p1, p2, p3⟩ := hcell 0 (by rw [rangesL_len]; simp)
  simp only [rangesL, List.getElem_cons_zero, Nat.zero_mul, Nat.add_zero, Int.zero_add, Int.mul_one] at p1 p2 p3
  clear hown3 hs3 hb3 hcell
  go_wp2
  go_ret
  exact ⟨rfl, HB3.out⟩
theorem fnWrittenOne_walk (a0 : Int) (w0 : (Lit.int .i64 a0).wf = true) (a1 : Int) (w1 : (Lit.int .i32 a1).wf = true) (a2 : Int) (w2 : (Lit.int .i32 a2).wf = true) (w : World) :
    Calls Try.prog 3 #[.int .i64 a0, .int .i32 a1, .int .i32 a2] w (Lawful w) := by
  obtain ⟨b0, b1⟩ := bounds_i32 w1
  by_cases h1 : 1 ≤ a0
  · by_cases h2 : a0 < 2147483648
    · exact fnWrittenOne_main a0 a1 a2 w h1 h2 b0 b1 w1 w2
    · clear w0 w1 w2 b0 b1
      go_enter Try.func3, Try.ntmps3
      go_wp2_with fail
      go_ret
      exact ⟨rfl, Below.refl _ _⟩
  · clear w0 w1 w2 b0 b1
    go_enter Try.func3, Try.ntmps3
    go_wp2_with fail
    go_ret
    exact ⟨rfl, Below.refl _ _⟩
end Go.Proofs.Ytmadidaiaggheaa
