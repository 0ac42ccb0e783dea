/- The walks of the laws FnMoveBack and FnMoveMade. -/
import Derived.Test.YtjlanmoainaedaaMoveLaws
namespace Go.Proofs.Ytjlanmoainaedaa
open Go.RowKit

theorem mov_cases (u : Nat) (hu : u < 18446744073709551616) : movN u = -1 ∨ (movN u = 0 ∧ u < 65536) ∨ (movN u = 16 ∧ u % 65536 = 0 ∧ u / 65536 < 65536) ∨
    (movN u = 32 ∧ u % 4294967296 = 0 ∧ u / 4294967296 < 65536) ∨ (movN u = 48 ∧ u % 281474976710656 = 0 ∧ u / 281474976710656 < 65536) := by
  have h0 := hit_iff u 0 hu (by omega)
  have h1 := hit_iff u 1 hu (by omega)
  have h2 := hit_iff u 2 hu (by omega)
  have h3 := hit_iff u 3 hu (by omega)
  simp only [Nat.reduceMul, Nat.reducePow, Nat.mul_zero, Nat.pow_zero, Nat.mod_one, Nat.div_one, true_and] at h0 h1 h2 h3
  unfold movN
  cases c0 : hit u 0
  · cases c1 : hit u 1
    · cases c2 : hit u 2
      · cases c3 : hit u 3
        · left; simp
        · exact .inr (.inr (.inr (.inr ⟨by simp, h3.1 c3⟩)))
      · exact .inr (.inr (.inr (.inl ⟨by simp, h2.1 c2⟩)))
    · exact .inr (.inr (.inl ⟨by simp, h1.1 c1⟩))
  · exact .inr (.inl ⟨by simp, h0.1 c0⟩)

theorem back_wrap (a0 : Int) (u m : Nat) (hv : IntKind.u64.wrap a0 = u) (hu : u < 18446744073709551616) (h : u % m = 0) : IntKind.u64.wrap (IntKind.u64.wrap a0 / (m : Int) * (m : Int)) = IntKind.u64.wrap a0 := by
  have e : u / m * m = u := by rw [Nat.mul_comm]; have := Nat.div_add_mod u m; omega
  have e2 : ((u : Int) / (m : Int) * (m : Int)) = (u : Int) := by exact_mod_cast e
  rw [hv, e2, u64_nat, Nat.mod_eq_of_lt hu]
theorem back_lt (a0 : Int) (u m : Nat) (hv : IntKind.u64.wrap a0 = u) (h : u / m < 65536) : IntKind.u64.wrap a0 / (m : Int) < 65536 := by
  have h2 : ((u / m : Nat) : Int) < 65536 := by omega
  rw [hv]; exact h2

theorem back_at0 (a0 : Int) (u : Nat) (w : World) (HV : Hid (IntKind.u64.wrap a0 = u)) (hu : Hid (u < 18446744073709551616)) (e0 : (a0 == 0) = false) (HM : Hid (movN u = 0)) (f1 : IntKind.u64.wrap (IntKind.u64.wrap a0) = IntKind.u64.wrap a0) (f2 : IntKind.u64.wrap a0 < 65536) :
    Calls Try.prog 12 #[.int .i64 a0] w fun e w' => e = .returned (.bool true) ∧ Grown w w' := by
  have k1 := Lib.hid (show movN 4294967296 = 32 by decide +kernel)
  go_enter Try.func12, Try.ntmps12
  go_wp2_with fail
  refine (moveof_any _ u HV.out hu.out _).mono ?_
  rw [HM.out]
  rintro e w' ⟨rfl, rfl⟩
  go_wp2_with fail
  refine (moveof_any _ 4294967296 (by decide) (by decide) _).mono ?_
  rw [k1.out]
  rintro e w' ⟨rfl, rfl⟩
  go_wp2
  go_ret
  exact ⟨rfl, Grown.refl _⟩
theorem back_at16 (a0 : Int) (u : Nat) (w : World) (HV : Hid (IntKind.u64.wrap a0 = u)) (hu : Hid (u < 18446744073709551616)) (e0 : (a0 == 0) = false) (HM : Hid (movN u = 16)) (f1 : IntKind.u64.wrap (IntKind.u64.wrap a0 / 65536 * 65536) = IntKind.u64.wrap a0) (f2 : IntKind.u64.wrap a0 / 65536 < 65536) :
    Calls Try.prog 12 #[.int .i64 a0] w fun e w' => e = .returned (.bool true) ∧ Grown w w' := by
  have k1 := Lib.hid (show movN 4294967296 = 32 by decide +kernel)
  go_enter Try.func12, Try.ntmps12
  go_wp2_with fail
  refine (moveof_any _ u HV.out hu.out _).mono ?_
  rw [HM.out]
  rintro e w' ⟨rfl, rfl⟩
  go_wp2_with fail
  refine (moveof_any _ 4294967296 (by decide) (by decide) _).mono ?_
  rw [k1.out]
  rintro e w' ⟨rfl, rfl⟩
  go_wp2
  go_ret
  exact ⟨rfl, Grown.refl _⟩
theorem back_at32 (a0 : Int) (u : Nat) (w : World) (HV : Hid (IntKind.u64.wrap a0 = u)) (hu : Hid (u < 18446744073709551616)) (e0 : (a0 == 0) = false) (HM : Hid (movN u = 32)) (f1 : IntKind.u64.wrap (IntKind.u64.wrap a0 / 4294967296 * 4294967296) = IntKind.u64.wrap a0) (f2 : IntKind.u64.wrap a0 / 4294967296 < 65536) :
    Calls Try.prog 12 #[.int .i64 a0] w fun e w' => e = .returned (.bool true) ∧ Grown w w' := by
  have k1 := Lib.hid (show movN 4294967296 = 32 by decide +kernel)
  go_enter Try.func12, Try.ntmps12
  go_wp2_with fail
  refine (moveof_any _ u HV.out hu.out _).mono ?_
  rw [HM.out]
  rintro e w' ⟨rfl, rfl⟩
  go_wp2_with fail
  refine (moveof_any _ 4294967296 (by decide) (by decide) _).mono ?_
  rw [k1.out]
  rintro e w' ⟨rfl, rfl⟩
  go_wp2
  go_ret
  exact ⟨rfl, Grown.refl _⟩
theorem back_at48 (a0 : Int) (u : Nat) (w : World) (HV : Hid (IntKind.u64.wrap a0 = u)) (hu : Hid (u < 18446744073709551616)) (e0 : (a0 == 0) = false) (HM : Hid (movN u = 48)) (f1 : IntKind.u64.wrap (IntKind.u64.wrap a0 / 281474976710656 * 281474976710656) = IntKind.u64.wrap a0) (f2 : IntKind.u64.wrap a0 / 281474976710656 < 65536) :
    Calls Try.prog 12 #[.int .i64 a0] w fun e w' => e = .returned (.bool true) ∧ Grown w w' := by
  have k1 := Lib.hid (show movN 4294967296 = 32 by decide +kernel)
  go_enter Try.func12, Try.ntmps12
  go_wp2_with fail
  refine (moveof_any _ u HV.out hu.out _).mono ?_
  rw [HM.out]
  rintro e w' ⟨rfl, rfl⟩
  go_wp2_with fail
  refine (moveof_any _ 4294967296 (by decide) (by decide) _).mono ?_
  rw [k1.out]
  rintro e w' ⟨rfl, rfl⟩
  go_wp2
  go_ret
  exact ⟨rfl, Grown.refl _⟩
theorem fnMoveBack_walk (a0 : Int) (w0 : (Lit.int .i64 a0).wf = true) (w : World) :
    Calls Try.prog 12 #[.int .i64 a0] w fun e w' => e = .returned (.bool true) ∧ Grown w w' := by
  obtain ⟨b0, b1⟩ := bounds_i64 w0
  obtain ⟨u, hv, hu⟩ := u64_of a0
  clear w0
  have k1 := Lib.hid (show movN 4294967296 = 32 by decide +kernel)
  have HV := Lib.hid hv
  by_cases h0 : a0 = 0
  · subst h0
    go_enter Try.func12, Try.ntmps12
    go_wp2_with fail
    refine (moveof_any _ u HV.out hu _).mono ?_
    rintro e w' ⟨rfl, rfl⟩
    go_wp2_with fail
    go_ret
    exact ⟨rfl, Grown.refl _⟩
  have e0 : (a0 == 0) = false := by simp [h0]
  rcases mov_cases u hu with h | ⟨h, h1⟩ | ⟨h, h1, h2⟩ | ⟨h, h1, h2⟩ | ⟨h, h1, h2⟩
  · have HM := Lib.hid h; clear h
    go_enter Try.func12, Try.ntmps12
    go_wp2_with fail
    refine (moveof_any _ u HV.out hu _).mono ?_
    rw [HM.out]
    rintro e w' ⟨rfl, rfl⟩
    go_wp2_with fail
    refine (moveof_any _ 4294967296 (by decide) (by decide) _).mono ?_
    rw [k1.out]
    rintro e w' ⟨rfl, rfl⟩
    go_wp2
    go_ret
    exact ⟨rfl, Grown.refl _⟩
  · exact back_at0 a0 u w HV (Lib.hid hu) e0 (Lib.hid h) (by have := back_wrap a0 u 1 hv hu (Nat.mod_one _); simpa using this) (by rw [hv]; omega)
  · exact back_at16 a0 u w HV (Lib.hid hu) e0 (Lib.hid h) (back_wrap a0 u 65536 hv hu h1) (back_lt a0 u 65536 hv h2)
  · exact back_at32 a0 u w HV (Lib.hid hu) e0 (Lib.hid h) (back_wrap a0 u 4294967296 hv hu h1) (back_lt a0 u 4294967296 hv h2)
  · exact back_at48 a0 u w HV (Lib.hid hu) e0 (Lib.hid h) (back_wrap a0 u 281474976710656 hv hu h1) (back_lt a0 u 281474976710656 hv h2)

theorem made_hit (p k : Nat) (hp : p < 65536) (h0 : p ≠ 0) (hk : k < 4) : p * 2 ^ (16 * k) < 18446744073709551616 ∧ movN (p * 2 ^ (16 * k)) = 16 * (k : Int) := by
  have hl : p * 2 ^ (16 * k) < 18446744073709551616 := by
    have : k = 0 ∨ k = 1 ∨ k = 2 ∨ k = 3 := by omega
    rcases this with rfl | rfl | rfl | rfl <;> simp only [Nat.reduceMul, Nat.reducePow, Nat.mul_zero, Nat.pow_zero] <;> omega
  have hpw : 0 < 2 ^ (16 * k) := Nat.pow_pos (by omega)
  have hh : hit (p * 2 ^ (16 * k)) k = true := (hit_iff _ k hl hk).2 ⟨Nat.mul_mod_left _ _, by rw [Nat.mul_div_cancel _ hpw]; exact hp⟩
  refine ⟨hl, ?_⟩
  rw [← last_eq _ hl (by have := Nat.mul_pos (show 0 < p by omega) hpw; omega)]
  have nz : p * 2 ^ (16 * k) ≠ 0 := by have := Nat.mul_pos (show 0 < p by omega) hpw; omega
  have no : ∀ j, j < 4 → j ≠ k → hit (p * 2 ^ (16 * k)) j = false := by
    intro j hj hne
    cases c : hit (p * 2 ^ (16 * k)) j with
    | false => rfl
    | true =>
      rcases Nat.lt_or_ge j k with h | h
      · exact absurd (two_hits _ j k hl h hk c hh) nz
      · exact absurd (two_hits _ k j hl (by omega) hj hh c) nz
  generalize p * 2 ^ (16 * k) = u at *
  have : k = 0 ∨ k = 1 ∨ k = 2 ∨ k = 3 := by omega
  rcases this with rfl | rfl | rfl | rfl
  · simp [lastN, hh, no 1 (by omega) (by omega), no 2 (by omega) (by omega), no 3 (by omega) (by omega)]
  · simp [lastN, hh, no 2 (by omega) (by omega), no 3 (by omega) (by omega)]
  · simp [lastN, hh, no 3 (by omega) (by omega)]
  · simp [lastN, hh]

theorem i64_back (u : Nat) (hu : u < 18446744073709551616) : IntKind.u64.wrap (IntKind.i64.wrap (u : Int)) = u := by
  rw [IntKind.wrap_u64, IntKind.wrap_i64]; omega
theorem wrap64_back (u : Nat) (hu : u < 18446744073709551616) : IntKind.u64.wrap (wrap64 (u : Int)) = u := by
  rw [IntKind.wrap_u64]; unfold wrap64; omega

theorem fnMoveMade_main (p k : Nat) (hp : p < 65536) (h0 : p ≠ 0) (hk : k < 4) (w : World) :
    Calls Try.prog 13 #[.int .u16 p, .int .i64 k] w fun e w' => e = .returned (.bool true) ∧ Grown w w' := by
  obtain ⟨hl, hm⟩ := made_hit p k hp h0 hk
  have HM := Lib.hid hm; clear hm
  have HL := Lib.hid hl; clear hl
  have e0 : ((p : Int) == 0) = false := by simp; omega
  have k1 := Lib.hid (show movN 65537 = -1 by decide +kernel)
  go_enter Try.func13, Try.ntmps13
  go_wp2_with fail
  refine (moveof_any _ (p * 2 ^ (16 * k)) (by rw [shl_form _ _ HL.out]; exact wrap64_back _ HL.out) HL.out _).mono ?_
  rw [HM.out]
  rintro e w' ⟨rfl, rfl⟩
  go_wp2_with fail
  refine (moveof_any _ 65537 (by decide) (by decide) _).mono ?_
  rw [k1.out]
  rintro e w' ⟨rfl, rfl⟩
  go_wp2
  go_ret
  exact ⟨rfl, Grown.refl _⟩

theorem fnMoveMade_walk (a0 : Int) (a1 : Int) (w0 : (Lit.int .u16 a0).wf = true) (w1 : (Lit.int .i64 a1).wf = true) (w : World) :
    Calls Try.prog 13 #[.int .u16 a0, .int .i64 a1] w fun e w' => e = .returned (.bool true) ∧ Grown w w' := by
  obtain ⟨b0, b1⟩ := bounds_u16 w0
  obtain ⟨b2, b3⟩ := bounds_i64 w1
  clear w0 w1
  obtain ⟨p, rfl⟩ := Int.eq_ofNat_of_zero_le b0
  by_cases h0 : p = 0
  · subst h0
    go_enter Try.func13, Try.ntmps13
    go_wp2
    go_ret
    exact ⟨rfl, Grown.refl _⟩
  have e0 : ((p : Int) == 0) = false := by simp; omega
  by_cases c1 : a1 < 0
  · go_enter Try.func13, Try.ntmps13
    go_wp2
    go_ret
    exact ⟨rfl, Grown.refl _⟩
  by_cases c2 : 3 < a1
  · go_enter Try.func13, Try.ntmps13
    go_wp2
    go_ret
    exact ⟨rfl, Grown.refl _⟩
  obtain ⟨k, rfl⟩ := Int.eq_ofNat_of_zero_le (show 0 ≤ a1 by omega)
  exact fnMoveMade_main p k (by omega) h0 (by omega) w
end Go.Proofs.Ytjlanmoainaedaa
