/- The walks of the six laws on bitcons. -/
import Derived.Test.YtnohdfdjhhmmdaaSpecWalks
namespace Go.Proofs.Ytnohdfdjhhmmdaa
open Go.RowKit

theorem lit_bit (k : Nat) (h : Pl.isB k = true) (hk : k < 18446744073709551616) (z : Int) (hz : z = k) (w : World) : Calls Try.prog 14 #[.int .u64 z] w fun e w' => e = .returned (.bool true) ∧ w = w' := by
  have := bitcon_any z k hz hk w
  rwa [h] at this

theorem fnBitcon_walk (a0 : Int) (w0 : (Lit.int .u64 a0).wf = true) (w : World) :
    Calls Try.prog 3 #[.int .u64 a0] w fun e w' => e = .returned (.bool true) ∧ Grown w w' := by
  obtain ⟨b0, b1⟩ := bounds_u64 w0
  obtain ⟨x, rfl⟩ := Int.eq_ofNat_of_zero_le b0
  have hx := Lib.hid (show x < 18446744073709551616 by omega)
  have he := Lib.hid (Pl.isB_spec x hx.out)
  clear w0 b0 b1
  go_enter Try.func3, Try.ntmps3
  go_wp2_with fail
  refine (bitcon_any _ x rfl hx.out _).mono ?_
  rw [he.out]
  rintro e w' ⟨rfl, rfl⟩
  go_wp2_with fail
  refine (spec_bitcon_any _ x rfl _).mono ?_
  rintro e w' ⟨rfl, rfl⟩
  go_wp2_with fail
  refine (lit_bit 1 (by decide +kernel) (by decide) _ rfl _).mono ?_
  rintro e w' ⟨rfl, rfl⟩
  go_wp2
  go_ret
  exact ⟨rfl, Grown.refl _⟩

theorem fnBitconMade_walk (a0 : Int) (a1 : Int) (a2 : Int) (_w0 : (Lit.int .i64 a0).wf = true) (_w1 : (Lit.int .i64 a1).wf = true) (_w2 : (Lit.int .i64 a2).wf = true) (w : World) :
    Calls Try.prog 6 #[.int .i64 a0, .int .i64 a1, .int .i64 a2] w fun e w' => e = .returned (.bool true) ∧ Grown w w' := by
  by_cases h : MadeZ a0 a1 a2
  · have H := Lib.hid h
    obtain ⟨p, n, b, rfl, rfl, rfl, hm⟩ := madeZ_nat h
    clear h
    have HM := Lib.hid hm; clear hm
    go_enter Try.func6, Try.ntmps6
    go_wp2_with fail
    refine (ismade_yes _ _ _ H.out _).mono ?_
    rintro e w' ⟨rfl, rfl⟩
    go_wp2_with fail
    refine (made_any p n b _ rfl HM.out.1 HM.out.2.2.1 HM.out.2.2.2 _).mono ?_
    rintro e w' ⟨rfl, rfl⟩
    go_wp2_with fail
    refine (lit_bit _ (Pl.allMade_at Pl.chk_isB HM.out) (of_decide_eq_true (Pl.allMade_at Pl.chk_lt HM.out)) _ rfl _).mono ?_
    rintro e w' ⟨rfl, rfl⟩
    go_wp2
    go_ret
    exact ⟨rfl, Grown.refl _⟩
  · have H := Lib.hid h; clear h
    go_enter Try.func6, Try.ntmps6
    go_wp2_with fail
    refine (ismade_no _ _ _ H.out _).mono ?_
    rintro e w' ⟨rfl, rfl⟩
    go_wp2_with fail
    go_ret
    exact ⟨rfl, Grown.refl _⟩

theorem chk_inv : Pl.allMade (fun p n b => Pl.isB (18446744073709551615 - Pl.made p n b)) = true := by decide +kernel
theorem isB_inv (x : Nat) (hx : x < 18446744073709551616) : Pl.isB (18446744073709551615 - x) = Pl.isB x := by
  have step : ∀ y, y < 18446744073709551616 → Pl.isB y = true → Pl.isB (18446744073709551615 - y) = true := by
    intro y hy h
    obtain ⟨p, n, b, hm, rfl⟩ := (Pl.isB_iff y hy).1 h
    exact Pl.allMade_at chk_inv hm
  rw [Bool.eq_iff_iff]
  refine ⟨fun h => ?_, step x hx⟩
  have := step _ (by omega) h
  rwa [show 18446744073709551615 - (18446744073709551615 - x) = x by omega] at this

theorem fnBitconInverted_walk (a0 : Int) (w0 : (Lit.int .u64 a0).wf = true) (w : World) :
    Calls Try.prog 5 #[.int .u64 a0] w fun e w' => e = .returned (.bool true) ∧ Grown w w' := by
  obtain ⟨b0, b1⟩ := bounds_u64 w0
  obtain ⟨x, rfl⟩ := Int.eq_ofNat_of_zero_le b0
  have hx := Lib.hid (show x < 18446744073709551616 by omega)
  obtain ⟨n, hn⟩ : ∃ n, n = 18446744073709551615 - x := ⟨_, rfl⟩
  have hsg := u64_unsigned
  have hnot : bits .xor .u64 IntKind.u64.max (x : Int) = (n : Int) := by rw [hn]; exact not_max x hx.out
  have he := Lib.hid (show Pl.isB n = Pl.isB x by rw [hn]; exact isB_inv x hx.out)
  have hl := Lib.hid (show n < 18446744073709551616 by omega)
  clear w0 b0 b1 hn
  go_enter Try.func5, Try.ntmps5
  go_wp2_with fail
  refine (bitcon_any _ x rfl hx.out _).mono ?_
  rintro e w' ⟨rfl, rfl⟩
  go_wp2_with fail
  refine (bitcon_any _ n rfl hl.out _).mono ?_
  rw [he.out]
  rintro e w' ⟨rfl, rfl⟩
  go_wp2_with fail
  refine (lit_bit 3 (by decide +kernel) (by decide) _ rfl _).mono ?_
  rintro e w' ⟨rfl, rfl⟩
  go_wp2
  go_ret
  exact ⟨rfl, Grown.refl _⟩

theorem chk_turn : Pl.allMade (fun p n b => Pl.isB (Pl.rot 1 (Pl.made p n b)) && Pl.isB (Pl.rot 63 (Pl.made p n b))) = true := by decide +kernel
theorem turn_back (x : Nat) (hx : x < 2 ^ 64) : Pl.rot 1 x < 2 ^ 64 ∧ Pl.rot 63 (Pl.rot 1 x) = x := by
  have e := Pl.rot_eq 1 x (by omega) hx
  have hl : Pl.rot 1 x < 2 ^ 64 := by rw [e]; omega
  refine ⟨hl, ?_⟩
  rw [Pl.rot_eq 63 _ (by omega) hl, e]
  simp only [Nat.reducePow, Nat.reduceSub] at *
  omega
theorem isB_turn (x : Nat) (hx : x < 2 ^ 64) : Pl.isB (Pl.rot 1 x) = Pl.isB x := by
  obtain ⟨hl, hb⟩ := turn_back x hx
  rw [Bool.eq_iff_iff]
  constructor
  · intro h
    obtain ⟨p, n, b, hm, e⟩ := (Pl.isB_iff _ hl).1 h
    have := Pl.allMade_at chk_turn hm
    rw [Bool.and_eq_true, ← e, hb] at this
    exact this.2
  · intro h
    obtain ⟨p, n, b, hm, e⟩ := (Pl.isB_iff _ hx).1 h
    have := Pl.allMade_at chk_turn hm
    rw [Bool.and_eq_true, ← e] at this
    exact this.1

theorem fnBitconTurned_walk (a0 : Int) (w0 : (Lit.int .u64 a0).wf = true) (w : World) :
    Calls Try.prog 8 #[.int .u64 a0] w fun e w' => e = .returned (.bool true) ∧ Grown w w' := by
  obtain ⟨b0, b1⟩ := bounds_u64 w0
  obtain ⟨x, rfl⟩ := Int.eq_ofNat_of_zero_le b0
  have hx := Lib.hid (show x < 18446744073709551616 by omega)
  have hf := rot1_form x hx.out
  have he := Lib.hid (isB_turn x hx.out)
  have hl := Lib.hid (turn_back x hx.out).1
  clear w0 b0 b1
  go_enter Try.func8, Try.ntmps8
  go_wp2_with fail
  refine (bitcon_any _ x rfl hx.out _).mono ?_
  rintro e w' ⟨rfl, rfl⟩
  go_wp2_with fail
  refine (bitcon_any _ (Pl.rot 1 x) rfl hl.out _).mono ?_
  rw [he.out]
  rintro e w' ⟨rfl, rfl⟩
  go_wp2_with fail
  refine (lit_bit 2 (by decide +kernel) (by decide) _ rfl _).mono ?_
  rintro e w' ⟨rfl, rfl⟩
  go_wp2
  go_ret
  exact ⟨rfl, Grown.refl _⟩

theorem both_form (x : Nat) (hx : x < 4294967296) : bits .or .u64 (x : Int) ((x : Int) * 4294967296) = ((x ||| x * 4294967296 : Nat) : Int) := by
  have e : (x : Int) * 4294967296 = ((x * 4294967296 : Nat) : Int) := by omega
  rw [e, or_nat _ _ (by omega) (by omega)]
theorem both_lt (x : Nat) (hx : x < 4294967296) : (x ||| x * 4294967296) < 18446744073709551616 := Nat.or_lt_two_pow (n := 64) (by omega) (by omega)

theorem fnBitconHalf_walk (a0 : Int) (w0 : (Lit.int .u32 a0).wf = true) (w : World) :
    Calls Try.prog 4 #[.int .u32 a0] w fun e w' => e = .returned (.bool true) ∧ Grown w w' := by
  obtain ⟨b0, b1⟩ := bounds_u32 w0
  obtain ⟨x, rfl⟩ := Int.eq_ofNat_of_zero_le b0
  have hx : x < 4294967296 := by omega
  obtain ⟨y, hy⟩ : ∃ y, y = x ||| x * 4294967296 := ⟨_, rfl⟩
  have hl := Lib.hid (show y < 18446744073709551616 by rw [hy]; exact both_lt x hx)
  have hf : bits .or .u64 (x : Int) ((x : Int) * 4294967296) = (y : Int) := by rw [hy]; exact both_form x hx
  have he := Lib.hid (Pl.isB_spec y hl.out)
  clear w0 hy
  go_enter Try.func4, Try.ntmps4
  go_wp2_with fail
  refine (bitcon_any _ y rfl hl.out _).mono ?_
  rw [he.out]
  rintro e w' ⟨rfl, rfl⟩
  go_wp2_with fail
  refine (spec_bitcon_any _ y rfl _).mono ?_
  rintro e w' ⟨rfl, rfl⟩
  go_wp2_with fail
  refine (lit_bit 7 (by decide +kernel) (by decide) _ rfl _).mono ?_
  rintro e w' ⟨rfl, rfl⟩
  go_wp2
  go_ret
  exact ⟨rfl, Grown.refl _⟩

theorem chk_same : ((List.range 64).all fun k => Pl.isB (2 ^ k) && Pl.isB (18446744073709551615 - 2 ^ k)) = true := by decide +kernel

theorem fnBitconSame_main (all : Bool) (k : Nat) (hk : k < 64) (w : World) :
    Calls Try.prog 7 #[.bool all, .int .i64 k] w fun e w' => e = .returned (.bool true) ∧ Grown w w' := by
  have hc := List.all_eq_true.1 chk_same k (List.mem_range.2 hk)
  rw [Bool.and_eq_true] at hc
  have hp : 2 ^ k < 18446744073709551616 := Nat.pow_lt_pow_right (a := 2) (m := k) (n := 64) (by omega) hk
  have hs := u64_unsigned
  have hn0 : bits .xor .u64 IntKind.u64.max (0 : Int) = 18446744073709551615 := not_max 0 (by decide)
  have e0 : IntKind.u64.wrap (2 ^ k) = ((2 ^ k : Nat) : Int) := by rw [two_pow_cast, u64_nat, Nat.mod_eq_of_lt hp]
  cases all
  · have e1 : bits .xor .u64 0 (IntKind.u64.wrap (2 ^ k)) = ((2 ^ k : Nat) : Int) := by
      rw [e0]
      have := u64_xor_nat 0 (2 ^ k) (by decide) hp
      rw [Nat.zero_xor] at this
      exact this
    have HC := Lib.hid hc; clear hc
    have HP := Lib.hid hp; clear hp
    have k0 := Lib.hid (show Pl.isB 0 = false by decide +kernel)
    clear e0
    go_enter Try.func7, Try.ntmps7
    go_wp2_with fail
    refine (bitcon_any _ 0 rfl (by decide) _).mono ?_
    rw [k0.out]
    rintro e w' ⟨rfl, rfl⟩
    go_wp2_with fail
    refine (lit_bit (2 ^ k) HC.out.1 HP.out _ (by first | rfl | assumption) _).mono ?_
    rintro e w' ⟨rfl, rfl⟩
    go_wp2
    go_ret
    exact ⟨rfl, Grown.refl _⟩
  · have e1 : bits .xor .u64 18446744073709551615 (IntKind.u64.wrap (2 ^ k)) = ((18446744073709551615 - 2 ^ k : Nat) : Int) := by
      rw [e0]; exact not_form _ hp
    have HC := Lib.hid hc; clear hc
    have HP := Lib.hid hp; clear hp
    have k0 := Lib.hid (show Pl.isB 18446744073709551615 = false by decide +kernel)
    clear e0
    have hl := Lib.hid (show 18446744073709551615 - 2 ^ k < 18446744073709551616 from Nat.lt_of_le_of_lt (Nat.sub_le _ _) (by decide))
    go_enter Try.func7, Try.ntmps7
    go_wp2_with fail
    refine (bitcon_any _ 18446744073709551615 rfl (by decide) _).mono ?_
    rw [k0.out]
    rintro e w' ⟨rfl, rfl⟩
    go_wp2_with fail
    refine (lit_bit (18446744073709551615 - 2 ^ k) HC.out.2 hl.out _ (by first | rfl | assumption) _).mono ?_
    rintro e w' ⟨rfl, rfl⟩
    go_wp2
    go_ret
    exact ⟨rfl, Grown.refl _⟩

theorem fnBitconSame_walk (a0 : Bool) (a1 : Int) (w1 : (Lit.int .i64 a1).wf = true) (w : World) :
    Calls Try.prog 7 #[.bool a0, .int .i64 a1] w fun e w' => e = .returned (.bool true) ∧ Grown w w' := by
  obtain ⟨b0, b1⟩ := bounds_i64 w1
  clear w1
  by_cases c1 : a1 < 0
  · go_enter Try.func7, Try.ntmps7
    go_wp2_with fail
    go_ret
    exact ⟨rfl, Grown.refl _⟩
  by_cases c2 : 63 < a1
  · go_enter Try.func7, Try.ntmps7
    go_wp2_with fail
    go_ret
    exact ⟨rfl, Grown.refl _⟩
  obtain ⟨k, rfl⟩ := Int.eq_ofNat_of_zero_le (show 0 ≤ a1 by omega)
  exact fnBitconSame_main a0 k (by omega) w
end Go.Proofs.Ytnohdfdjhhmmdaa
