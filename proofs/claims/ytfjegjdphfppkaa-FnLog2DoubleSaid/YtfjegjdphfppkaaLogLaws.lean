/- The walks of the three laws on log2. -/
import Derived.Test.YtfjegjdphfppkaaLogWalks
namespace Go.Proofs.Ytfjegjdphfppkaa
open Go.RowKit

theorem ilog_any (z : Int) (x l : Nat) (hz : z = x) (h0 : x ≠ 0) (hx : x < 18446744073709551616) (hl : x.log2 = l) (w : World) :
    Calls Try.prog 13 #[.int .u64 z] w fun e w' => e = .returned (.int .u32 l) ∧ w = w' := by
  subst hl
  have HZ := Lib.hid hz; clear hz
  have H0 := Lib.hid h0; clear h0
  go_enter Try.func13, Try.ntmps13
  go_wp2_with (first | (go_at_call 32; refine (log2_any _ x HZ.out H0.out hx _).mono ?_; rintro e w' ⟨rfl, rfl⟩) | go_in)
  go_ret
  exact ⟨rfl, rfl⟩

theorem log_div (x : Nat) (h0 : x ≠ 0) : x / 2 ^ x.log2 = 1 := by
  have h1 := Nat.log2_self_le h0
  have h2 : x < 2 ^ (x.log2 + 1) := Nat.lt_log2_self
  rw [Nat.pow_succ] at h2
  have hp : 0 < 2 ^ x.log2 := Nat.pow_pos (by omega)
  have h3 : x / 2 ^ x.log2 < 2 := Nat.div_lt_of_lt_mul h2
  have h4 : 1 ≤ x / 2 ^ x.log2 := (Nat.le_div_iff_mul_le hp).2 (by omega)
  omega

theorem fnLog2_main (x l : Nat) (h0 : x ≠ 0) (hx : x < 18446744073709551616) (hl : Hid (x.log2 = l)) (hl2 : l < 64) (w : World) :
    Calls Try.prog 3 #[.int .u64 x] w fun e w' => e = .returned (.bool true) ∧ Grown w w' := by
  have e0 : ((x : Int) == 0) = false := by simp; omega
  have hd : ((x : Int) / 2 ^ l) = 1 := by
    have := log_div x h0
    rw [hl.out] at this
    rw [two_pow_cast]
    have h2 : ((x / 2 ^ l : Nat) : Int) = 1 := by rw [this]; rfl
    exact h2
  have HX := Lib.hid hx
  have H0 := Lib.hid h0
  clear hx h0
  go_enter Try.func3, Try.ntmps3
  go_wp2_with fail
  refine (ilog_any _ x l rfl H0.out HX.out hl.out _).mono ?_
  rintro e w' ⟨rfl, rfl⟩
  go_wp2_with fail
  refine (ilog_any _ x l rfl H0.out HX.out hl.out _).mono ?_
  rintro e w' ⟨rfl, rfl⟩
  go_wp2_with fail
  refine (ilog_any _ 8 3 rfl (by decide) (by decide) (by decide +kernel) _).mono ?_
  rintro e w' ⟨rfl, rfl⟩
  go_wp2
  go_ret
  exact ⟨rfl, Grown.refl _⟩

theorem fnLog2_walk (a0 : Int) (w0 : (Lit.int .u64 a0).wf = true) (w : World) :
    Calls Try.prog 3 #[.int .u64 a0] w fun e w' => e = .returned (.bool true) ∧ Grown w w' := by
  obtain ⟨b0, b1⟩ := bounds_u64 w0
  obtain ⟨x, rfl⟩ := Int.eq_ofNat_of_zero_le b0
  clear w0 b0
  by_cases h0 : x = 0
  · subst h0
    go_enter Try.func3, Try.ntmps3
    go_wp2_with fail
    go_ret
    exact ⟨rfl, Grown.refl _⟩
  exact fnLog2_main x _ h0 (by omega) (Lib.hid rfl) (log_lt x (by omega) h0) w

theorem log_double (x : Nat) (h0 : x ≠ 0) : (2 * x).log2 = x.log2 + 1 := by
  rw [Nat.log2_def, if_pos (by omega), Nat.mul_div_cancel_left _ (by omega)]

theorem fnLog2Double_main (x l : Nat) (h0 : x ≠ 0) (hx : x < 9223372036854775808) (hl : Hid (x.log2 = l)) (hl2 : l < 64) (w : World) :
    Calls Try.prog 4 #[.int .u64 x] w fun e w' => e = .returned (.bool true) ∧ Grown w w' := by
  have e0 : ((x : Int) == 0) = false := by simp; omega
  have e1 : decide (9223372036854775808 ≤ (x : Int)) = false := by simp; omega
  have hd := Lib.hid (show (2 * x).log2 = l + 1 by rw [log_double x h0, hl.out])
  have HX := Lib.hid hx
  have H0 := Lib.hid h0
  clear h0
  go_enter Try.func4, Try.ntmps4
  go_wp2_with fail
  refine (ilog_any _ (2 * x) (l + 1) (by have := HX.out; first | omega | (rw [IntKind.wrap_u64]; omega)) (by have := H0.out; omega) (by have := HX.out; omega) hd.out _).mono ?_
  rintro e w' ⟨rfl, rfl⟩
  go_wp2_with fail
  refine (ilog_any _ x l rfl H0.out (by have := HX.out; omega) hl.out _).mono ?_
  rintro e w' ⟨rfl, rfl⟩
  go_wp2
  go_ret
  exact ⟨rfl, Grown.refl _⟩

theorem fnLog2Double_walk (a0 : Int) (w0 : (Lit.int .u64 a0).wf = true) (w : World) :
    Calls Try.prog 4 #[.int .u64 a0] w fun e w' => e = .returned (.bool true) ∧ Grown w w' := by
  obtain ⟨b0, b1⟩ := bounds_u64 w0
  obtain ⟨x, rfl⟩ := Int.eq_ofNat_of_zero_le b0
  clear w0 b0
  by_cases h0 : x = 0
  · subst h0
    go_enter Try.func4, Try.ntmps4
    go_wp2_with fail
    go_ret
    exact ⟨rfl, Grown.refl _⟩
  by_cases h1 : x < 9223372036854775808
  · exact fnLog2Double_main x _ h0 h1 (Lib.hid rfl) (log_lt x (by omega) h0) w
  · have e0 : ((x : Int) == 0) = false := by simp; omega
    have e1 : decide (9223372036854775808 ≤ (x : Int)) = true := by simp; omega
    go_enter Try.func4, Try.ntmps4
    go_wp2_with fail
    go_ret
    exact ⟨rfl, Grown.refl _⟩

theorem fnLog2Power_walk (a0 : Int) (w0 : (Lit.int .i64 a0).wf = true) (w : World) :
    Calls Try.prog 5 #[.int .i64 a0] w fun e w' => e = .returned (.bool true) ∧ Grown w w' := by
  obtain ⟨b0, b1⟩ := bounds_i64 w0
  clear w0
  by_cases c1 : a0 < 1
  · go_enter Try.func5, Try.ntmps5
    go_wp2_with fail
    go_ret
    exact ⟨rfl, Grown.refl _⟩
  by_cases c2 : 63 < a0
  · go_enter Try.func5, Try.ntmps5
    go_wp2_with fail
    go_ret
    exact ⟨rfl, Grown.refl _⟩
  obtain ⟨k, rfl⟩ := Int.eq_ofNat_of_zero_le (show 0 ≤ a0 by omega)
  have hp : 2 ^ k < 18446744073709551616 := Nat.pow_lt_pow_right (a := 2) (m := k) (n := 64) (by omega) (by omega)
  have HP := Lib.hid hp
  have e0 := Lib.hid (show IntKind.u64.wrap (2 ^ k) = ((2 ^ k : Nat) : Int) by rw [two_pow_cast, u64_nat, Nat.mod_eq_of_lt hp])
  have hl := Lib.hid (show (2 ^ k).log2 = k from Nat.log2_two_pow)
  clear hp
  go_enter Try.func5, Try.ntmps5
  go_wp2_with fail
  refine (ilog_any _ (2 ^ k) k e0.out (by have := Nat.pow_pos (n := k) (show 0 < 2 by omega); omega) HP.out hl.out _).mono ?_
  rintro e w' ⟨rfl, rfl⟩
  go_wp2
  go_ret
  exact ⟨rfl, Grown.refl _⟩
end Go.Proofs.Ytfjegjdphfppkaa
