/- The walk of the law FnWrittenValue. -/
import Derived.Test.YtmadidaiaggheaaWrite
import Derived.Test.YtmadidaiaggheaaIsCode
import Derived.Test.YtmadidaiaggheaaPiecesOf
import Derived.Test.YtmadidaiaggheaaLaw
import Derived.Deep.RegionHeld3
import Derived.Test.YtmadidaiaggheaaValAt
import Derived.Test.YtmadidaiaggheaaAt
namespace Go.Proofs.Ytmadidaiaggheaa
open Go.RowKit
set_option linter.unusedVariables false
attribute [local go_sem ↓] Go.wp_at_zero Go.wp_at_succ

theorem atL_some (u : Int) (ps : List (Int × Int)) (h0 : 0 ≤ u) (h : u < sumL ps) : (atL u ps).2 = true := by
  induction ps generalizing u with
  | nil => simp [sumL] at h; omega
  | cons p r ih =>
    unfold atL
    by_cases hlt : u < p.2
    · rw [if_pos hlt]
    · rw [if_neg hlt]; simp only [sumL] at h; exact ih _ (by omega) (by omega)

set_option maxHeartbeats 2000000 in
theorem fnWrittenValue_main (A A1 A2 : Option Addr) (n c n1 c1 n2 c2 : Nat) (pcs before behind : List Int) (size m : Int) (pl : Int) (w : World) (hs : Hid (SlN w w.heap.size .i64 A n c pcs)) (h1 : Hid (SlN w w.heap.size .i32 A1 n1 c1 before)) (h2 : Hid (SlN w w.heap.size .i32 A2 n2 c2 behind)) (hn : n ≤ 2147483647) (hn1 : n1 ≤ 2147483647) (hn2 : n2 ≤ 2147483647) (p0 : 0 ≤ pl) (p1 : pl ≤ 18446744073709551615) (s0 : -9223372036854775808 ≤ size) (s1 : size ≤ 9223372036854775807) :
    Calls Try.prog 9 #[.slice A n c, .int .i64 size, .slice A1 n1 c1, .slice A2 n2 c2, .int .i64 m, .int .u64 pl] w (Lawful w) := by
  go_enter Try.func9, Try.ntmps9
  go_wp2_with fail
  refine (isCode_any A A1 A2 n c n1 c1 n2 c2 pcs before behind size m w hs h1 h2 s0 s1).mono ?_
  rintro e w1 ⟨r, rfl, hr, hb1⟩
  have HB1 := Lib.hid hb1
  cases r
  · clear hr hb1
    go_wp2
    go_ret
    exact ⟨rfl, HB1.out⟩
  have HC := Lib.hid (hr rfl).1
  obtain rfl : n1 = n := by have a := HC.out.nb; have b := hs.out.len; have d := h1.out.len; omega
  obtain rfl : n2 = n1 := by have a := (hr rfl).2; have b := hs.out.len; have d := h2.out.len; omega
  have hm1 := HC.out.m1
  have hm2 := HC.out.m16
  have hz1 := hb1.size
  clear hr hb1
  have hss : 0 ≤ size := by have a := HC.out.last; have d := HC.out.nonneg (i := pcs.length - 1) (by omega); omega
  have hs31 := HC.out.s31
  have hws : IntKind.u64.wrap size = size := by rw [IntKind.wrap_u64]; omega
  have hwm : IntKind.u64.wrap m = m := by rw [IntKind.wrap_u64]; omega
  by_cases hpl : pl < size
  case neg =>
    have e : decide (size ≤ pl) = true := by simp; omega
    clear hpl
    go_wp2
    go_ret
    exact ⟨rfl, HB1.out⟩
  have f1 : decide (size ≤ pl) = false := by simp; omega
  have hm0 : (m == 0) = false := by simp; omega
  have HOk := Lib.hid (piecesOf_ok HC.out)
  have HRt := Lib.hid (piecesOf_right HC.out)
  have hsum : sumL (piecesOf pcs size before m) * m = size := by
    have h := (piecesK_good HC.out pcs.length (Nat.le_refl _)).2.1
    rw [pAt_end] at h
    exact h
  have hd0 : 0 ≤ pl / m := Int.ediv_nonneg p0 (by omega)
  have hd1 : pl / m ≤ pl := Int.ediv_le_self _ p0
  have hat : (atL (pl / m) (piecesOf pcs size before m)).2 = true := atL_some _ _ hd0 ((div_lt_iff hm1).2 (by rw [hsum]; exact hpl))
  obtain ⟨x, hx⟩ : ∃ x, (atL (pl / m) (piecesOf pcs size before m)).1 = x := ⟨_, rfl⟩
  have HVx : Hid (valAt m pl (piecesOf pcs size before m) = x) := Lib.hid (by rw [valAt_atL m hm1, hx])
  have HAt : Hid (∀ (W : World) (A : Option Addr) (n c : Nat), SlP W W.heap.size A n c (piecesOf pcs size before m) → Calls Try.prog 18 #[.slice A n c, .int .u64 (pl / m)] W (fun e w' => e = .returned (.tuple #[.int .i32 x, .bool true]) ∧ Below W.heap.size W w')) := Lib.hid (by
    intro W A n c h
    have h2 := at_any A n c _ (pl / m) W (Lib.hid h) hd0 (by omega)
    rw [hat, hx] at h2
    exact h2)
  have HPc : Hid (Calls Try.prog 15 #[.slice A n2 c, .int .i64 size, .slice A1 n2 c1, .int .i64 m] w1.drew (GivesP w1.drew (piecesOf pcs size before m))) := Lib.hid
    (pieces_any A A1 n2 c c1 pcs before size m w1.drew (Lib.hid (show SlN w1.drew w1.drew.heap.size _ _ _ _ _ from ((hs.out.below HB1.out).more HB1.out.size).keep (Nat.le_refl _) (fun _ _ _ => rfl))) (Lib.hid (show SlN w1.drew w1.drew.heap.size _ _ _ _ _ from ((h1.out.below HB1.out).more HB1.out.size).keep (Nat.le_refl _) (fun _ _ _ => rfl))) HC hn)
  have HPl : Hid ((piecesOf pcs size before m).length ≤ 2147483647) := Lib.hid (by have a := piecesOf_len HC.out; have b := hs.out.len; omega)
  have hwq : IntKind.u64.wrap (pl / m) = pl / m := by rw [IntKind.wrap_u64]; omega
  have htq : pl.tdiv m = pl / m := Int.tdiv_eq_ediv_of_nonneg p0
  have hmz : ¬ m = 0 := by omega
  have hquo : ∀ W : World, (binOp .quo 41 (.int .u64 pl) (.int .u64 m)).run Try.prog W = .ok (.int .u64 (pl / m)) W := fun W => by simp [go_sem, hmz, htq, hwq]
  clear hsum hat hx
  go_wp2_with fail
  go_region_held3 (fun W => True) (exact True.intro)
    (first
      | (go_at_call 15; refine HPc.out.mono ?_; rintro e w2 ⟨vp, rfl, hownp, hb2⟩; obtain ⟨Ap, np, cp, rfl, hsp⟩ := hownp.slp HOk.out; have HSP := Lib.hid hsp; have HB2 := Lib.hid hb2; clear hownp hsp hb2)
      | (go_at_call 18; refine (HAt.out _ _ _ _ HSP.out).mono ?_; rintro e w3 ⟨rfl, hb3⟩; have HB3 := Lib.hid hb3; clear hb3))
  have HBy := Lib.hid ((HB1.out.drew.trans (HB2.out.mono hz1)).trans (HB3.out.mono (Nat.le_trans hz1 HB2.out.size)))
  go_wp2_with fail
  refine (write_any w.heap.size n2 c c1 c2 A A1 A2 pcs before behind size m w3 (Lib.hid (hs.out.below HBy.out)) (Lib.hid (h1.out.below HBy.out)) (Lib.hid (h2.out.below HBy.out)) HBy.out.size HC hn).mono ?_
  rintro e w4 ⟨A3, n3, c3, rfl, hs3, hb4⟩
  have HS3 := Lib.hid hs3
  have HB4 := Lib.hid (HBy.out.trans (hb4.mono HBy.out.size))
  have hn3 : 0 < n3 := by have a := hs3.len; simp [tableB] at a; omega
  have e3 : decide ((0 : Int) < (n3 : Int)) = true := by simp; omega
  clear hs3 hb4
  go_wp2_with fail
  refine (valueAt_any n3 c3 w4.heap.size A3 m pl 0 pl (piecesOf pcs size before m) w4 HS3 (Nat.le_refl _) HPl HRt HOk (by omega) (by omega) (by omega) (by omega) p0 (by omega) (Lib.hid (by omega))).mono ?_
  rw [HVx.out]
  rintro e w5 ⟨rfl, hb5⟩
  have HB5 := Lib.hid (HB4.out.trans (hb5.mono HB4.out.size))
  clear hb5
  go_wp2
  go_ret
  exact ⟨rfl, HB5.out⟩
theorem fnWrittenValue_walk (A0 : Option Addr) (n0 c0 : Nat) (l0 : List Int) (a1 : Int) (w1 : (Lit.int .i64 a1).wf = true) (A2 : Option Addr) (n2 c2 : Nat) (l2 : List Int) (A3 : Option Addr) (n3 c3 : Nat) (l3 : List Int) (a4 : Int) (w4 : (Lit.int .i64 a4).wf = true) (a5 : Int) (w5 : (Lit.int .u64 a5).wf = true) (w : World) (s0 : SlN w w.heap.size .i64 A0 n0 c0 l0) (s2 : SlN w w.heap.size .i32 A2 n2 c2 l2) (s3 : SlN w w.heap.size .i32 A3 n3 c3 l3) :
    Calls Try.prog 9 #[.slice A0 n0 c0, .int .i64 a1, .slice A2 n2 c2, .slice A3 n3 c3, .int .i64 a4, .int .u64 a5] w (Lawful w) := by
  obtain ⟨b0, b1⟩ := bounds_i64 w1
  have m0 := Nat.le_trans s0.cap s0.mx
  have m2 := Nat.le_trans s2.cap s2.mx
  have m3 := Nat.le_trans s3.cap s3.mx
  have S0 := Lib.hid s0
  have S2 := Lib.hid s2
  have S3 := Lib.hid s3
  obtain ⟨q0, q1⟩ := bounds_u64 w5
  clear w1 w4 s0 s2 s3 w5
  by_cases hn : n0 ≤ 2147483647
  case neg =>
    go_enter Try.func9, Try.ntmps9
    go_wp2_with fail
    go_ret
    exact ⟨rfl, Below.refl _ _⟩
  by_cases hn2 : n2 ≤ 2147483647
  case neg =>
    go_enter Try.func9, Try.ntmps9
    go_wp2_with fail
    go_ret
    exact ⟨rfl, Below.refl _ _⟩
  by_cases hn3 : n3 ≤ 2147483647
  case neg =>
    go_enter Try.func9, Try.ntmps9
    go_wp2_with fail
    go_ret
    exact ⟨rfl, Below.refl _ _⟩
  exact fnWrittenValue_main A0 A2 A3 n0 c0 n2 c2 n3 c3 l0 l2 l3 a1 a4 a5 w S0 S2 S3 hn hn2 hn3 q0 (by omega) b0 (by omega)
end Go.Proofs.Ytmadidaiaggheaa
