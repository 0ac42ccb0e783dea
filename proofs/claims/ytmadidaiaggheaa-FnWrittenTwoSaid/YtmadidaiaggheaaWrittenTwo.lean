/- The walk of the law FnWrittenTwo. -/
import Derived.Test.YtmadidaiaggheaaWrite
import Derived.Test.YtmadidaiaggheaaReadLaws
import Derived.Test.YtmadidaiaggheaaWrittenLit
import Derived.Test.YtmadidaiaggheaaLaw
namespace Go.Proofs.Ytmadidaiaggheaa
open Go.RowKit
set_option linter.unusedVariables false

set_option maxHeartbeats 2000000 in
theorem fnWrittenTwo_main (at_ size one two : Int) (w : World) (a0 : 1 ≤ at_) (a1 : at_ < size) (s1 : size < 2147483648) (v0 : -2147483648 ≤ one) (v1 : one ≤ 2147483647) (u0 : -2147483648 ≤ two) (u1 : two ≤ 2147483647) (x0 : (Lit.int .i32 one).wf = true) (x1 : (Lit.int .i32 two).wf = true) (x2 : (Lit.int .i64 at_).wf = true) :
    Calls Try.prog 5 #[.int .i64 at_, .int .i64 size, .int .i32 one, .int .i32 two] w (Lawful w) := by
  have z1 : (w.alloc (.cells #[.int .i64 0, .int .i64 at_] 2)).heap.size = w.heap.size + 1 := by simp
  have z2 : ((w.alloc (.cells #[.int .i64 0, .int .i64 at_] 2)).alloc (.cells #[.int .i32 one, .int .i32 two] 21)).heap.size = w.heap.size + 1 + 1 := by simp
  have z3 : (((w.alloc (.cells #[.int .i64 0, .int .i64 at_] 2)).alloc (.cells #[.int .i32 one, .int .i32 two] 21)).alloc (.cells #[.int .i32 two, .int .i32 two] 21)).heap.size = w.heap.size + 1 + 1 + 1 := by simp
  have HCd := Lib.hid (two_code at_ size one two a0 a1 s1 ⟨v0, v1⟩ ⟨u0, u1⟩)
  have HSa : Hid (SlN (((w.alloc (.cells #[.int .i64 0, .int .i64 at_] 2)).alloc (.cells #[.int .i32 one, .int .i32 two] 21)).alloc (.cells #[.int .i32 two, .int .i32 two] 21)) (w.heap.size + 1 + 1 + 1) .i64 (some ⟨w.heap.size, 0, none⟩) 2 2 [0, at_]) := Lib.hid (sln_row _ _ _ .i64 [0, at_] 2 _ (by
    have h := heap_alloc_new w (.cells #[.int .i64 0, .int .i64 at_] 2)
    rw [← Below.heap_alloc (w.alloc (.cells #[.int .i64 0, .int .i64 at_] 2)) (.cells #[.int .i32 one, .int .i32 two] 21) _ (by omega), ← Below.heap_alloc ((w.alloc (.cells #[.int .i64 0, .int .i64 at_] 2)).alloc (.cells #[.int .i32 one, .int .i32 two] 21)) (.cells #[.int .i32 two, .int .i32 two] 21) _ (by omega)] at h
    exact h) rfl (by omega) (by intro z hz; simp at hz; rcases hz with h | h <;> rw [h] <;> first | decide | exact x2) (by omega))
  have HSb : Hid (SlN (((w.alloc (.cells #[.int .i64 0, .int .i64 at_] 2)).alloc (.cells #[.int .i32 one, .int .i32 two] 21)).alloc (.cells #[.int .i32 two, .int .i32 two] 21)) (w.heap.size + 1 + 1 + 1) .i32 (some ⟨w.heap.size + 1, 0, none⟩) 2 2 [one, two]) := Lib.hid (sln_row _ _ _ .i32 [one, two] 21 _ (by
    have h := heap_alloc_new (w.alloc (.cells #[.int .i64 0, .int .i64 at_] 2)) (.cells #[.int .i32 one, .int .i32 two] 21)
    rw [← Below.heap_alloc ((w.alloc (.cells #[.int .i64 0, .int .i64 at_] 2)).alloc (.cells #[.int .i32 one, .int .i32 two] 21)) (.cells #[.int .i32 two, .int .i32 two] 21) _ (by omega), z1] at h
    exact h) rfl (by omega) (by intro z hz; simp at hz; rcases hz with h | h <;> rw [h] <;> first | exact x0 | exact x1) (by omega))
  have HSc : Hid (SlN (((w.alloc (.cells #[.int .i64 0, .int .i64 at_] 2)).alloc (.cells #[.int .i32 one, .int .i32 two] 21)).alloc (.cells #[.int .i32 two, .int .i32 two] 21)) (w.heap.size + 1 + 1 + 1) .i32 (some ⟨w.heap.size + 1 + 1, 0, none⟩) 2 2 [two, two]) := Lib.hid (sln_row _ _ _ .i32 [two, two] 21 _ (by
    have h := heap_alloc_new ((w.alloc (.cells #[.int .i64 0, .int .i64 at_] 2)).alloc (.cells #[.int .i32 one, .int .i32 two] 21)) (.cells #[.int .i32 two, .int .i32 two] 21)
    rw [z2] at h
    exact h) rfl (by omega) (by intro z hz; simp at hz; subst hz; exact x1) (by omega))
  have HBx : Hid (Below w.heap.size w (((w.alloc (.cells #[.int .i64 0, .int .i64 at_] 2)).alloc (.cells #[.int .i32 one, .int .i32 two] 21)).alloc (.cells #[.int .i32 two, .int .i32 two] 21))) := Lib.hid ((((Below.refl _ _).alloc (Nat.le_refl _) _).alloc (by omega) _).alloc (by omega) _)
  have HZ3 := Lib.hid z3
  clear z1 z2 z3 x0 x1 x2 v0 v1 u0 u1
  go_enter Try.func5, Try.ntmps5
  go_wp2_with fail
  refine (write_any (w.heap.size + 1 + 1 + 1) 2 2 2 2 _ _ _ [0, at_] [one, two] [two, two] size 1 _ HSa HSb HSc (by rw [HZ3.out]; exact Nat.le_refl _) HCd (by omega)).mono ?_
  rintro e w2 ⟨A2, n2, c2, rfl, hs2, hb2⟩
  have HS2 := Lib.hid hs2
  have HB2 := Lib.hid (HBx.out.trans (hb2.mono HBx.out.size))
  have HRt := Lib.hid (piecesOf_right HCd.out)
  have HOk := Lib.hid (piecesOf_ok HCd.out)
  have HLn := Lib.hid (piecesOf_len HCd.out)
  clear hs2 hb2
  go_wp2_with fail
  refine (read_table A2 n2 c2 w2.heap.size 1 _ w2 HRt.out HOk.out HS2.out (Nat.le_refl _) (Nat.le_trans HLn.out (by simp))).mono ?_
  rintro e w3 ⟨v3, rfl, hown3, hb3⟩
  have HB3 := Lib.hid (HB2.out.trans (hb3.mono HB2.out.size))
  by_cases hot : one = two
  · subst hot
    rw [two_same at_ size one a0 a1] at hown3
    obtain ⟨A3, n3, c3, rfl, hs3⟩ := hown3.sl
    obtain rfl : n3 = 1 := hs3.len.symm
    obtain ⟨b, o, rfl, _, hcell⟩ := hs3.at_ (by omega)
    obtain ⟨p1, p2, p3⟩ := hcell 0 (by rw [rangesL_len]; simp)
    simp only [rangesL, List.getElem_cons_zero, Nat.zero_mul, Nat.add_zero, Int.zero_add, Int.mul_one] at p1 p2 p3
    clear hown3 hs3 hb3 hcell
    go_wp2
    go_ret
    exact ⟨rfl, HB3.out⟩
  · have e1 : (one == two) = false := by simpa using hot
    rw [two_parted at_ size one two a0 a1 hot] at hown3
    obtain ⟨A3, n3, c3, rfl, hs3⟩ := hown3.sl
    obtain rfl : n3 = 2 := hs3.len.symm
    obtain ⟨b, o, rfl, _, hcell⟩ := hs3.at_ (by omega)
    obtain ⟨p1, p2, p3⟩ := hcell 0 (by rw [rangesL_len]; simp)
    obtain ⟨q1, q2, q3⟩ := hcell 1 (by rw [rangesL_len]; simp)
    simp only [rangesL, List.getElem_cons_zero, List.getElem_cons_succ, Nat.zero_mul, Nat.one_mul, Nat.add_zero, Int.zero_add, Int.mul_one] at p1 p2 p3 q1 q2 q3
    rw [show at_ + (size - at_) = size by omega] at q3
    clear hown3 hs3 hb3 hcell hot
    go_wp2
    go_ret
    exact ⟨rfl, HB3.out⟩
theorem fnWrittenTwo_walk (a0 : Int) (w0 : (Lit.int .i64 a0).wf = true) (a1 : Int) (w1 : (Lit.int .i64 a1).wf = true) (a2 : Int) (w2 : (Lit.int .i32 a2).wf = true) (a3 : Int) (w3 : (Lit.int .i32 a3).wf = true) (w : World) :
    Calls Try.prog 5 #[.int .i64 a0, .int .i64 a1, .int .i32 a2, .int .i32 a3] w (Lawful w) := by
  obtain ⟨b0, b1⟩ := bounds_i32 w2
  obtain ⟨b2, b3⟩ := bounds_i32 w3
  by_cases h1 : 1 ≤ a0
  · by_cases h2 : a0 < a1
    · by_cases h3 : a1 < 2147483648
      · exact fnWrittenTwo_main a0 a1 a2 a3 w h1 h2 h3 b0 b1 b2 b3 w2 w3 w0
      · clear w0 w1 w2 w3 b0 b1 b2 b3
        go_enter Try.func5, Try.ntmps5
        go_wp2_with fail
        go_ret
        exact ⟨rfl, Below.refl _ _⟩
    · clear w0 w1 w2 w3 b0 b1 b2 b3
      go_enter Try.func5, Try.ntmps5
      go_wp2_with fail
      go_ret
      exact ⟨rfl, Below.refl _ _⟩
  · clear w0 w1 w2 w3 b0 b1 b2 b3
    go_enter Try.func5, Try.ntmps5
    go_wp2_with fail
    go_ret
    exact ⟨rfl, Below.refl _ _⟩
end Go.Proofs.Ytmadidaiaggheaa
