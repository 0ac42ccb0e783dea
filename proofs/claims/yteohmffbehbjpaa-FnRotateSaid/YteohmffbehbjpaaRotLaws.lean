/- The walks of the five laws on rotate masks of 64 bits. -/
import Derived.Test.YteohmffbehbjpaaRotWalks
import Derived.Test.YteohmffbehbjpaaBitWalks
namespace Go.Proofs.Yteohmffbehbjpaa
open Go.RowKit

theorem fnRotate_walk (a0 : Int) (_w0 : (Lit.int .i64 a0).wf = true) (w : World) :
    Calls Try.prog 3 #[.int .i64 a0] w fun e w' => e = .returned (.bool true) ∧ Grown w w' := by
  obtain ⟨u, hv, hu⟩ := u64_of a0
  have HV := Lib.hid hv
  have HU := Lib.hid hu; clear hu
  have he := Lib.hid (Pl.rot_ring 64 u (by decide) HU.out)
  have h1 := Lib.hid (show Pl.rotB 64 1 = true by decide +kernel)
  go_enter Try.func3, Try.ntmps3
  go_wp2_with fail
  refine (rotate_any _ u HV.out HU.out _).mono ?_
  rw [he.out]
  rintro e w' ⟨rfl, rfl⟩
  go_wp2_with fail
  refine (isring_any _ u rfl HU.out _).mono ?_
  rintro e w' ⟨rfl, rfl⟩
  go_wp2_with fail
  refine (rotate_any _ 1 (by decide) (by decide) _).mono ?_
  rw [h1.out]
  rintro e w' ⟨rfl, rfl⟩
  go_wp2
  go_ret
  exact ⟨rfl, Grown.refl _⟩

theorem not_i64 (v : Int) (h0 : -9223372036854775808 ≤ v) (h1 : v ≤ 9223372036854775807) : bits .xor .i64 (-1) v = -1 - v := by
  have e : (BitVec.ofInt 64 (-1) ^^^ BitVec.ofInt 64 v) = ~~~ BitVec.ofInt 64 v := by
    rw [show BitVec.ofInt 64 (-1) = BitVec.allOnes 64 by decide, BitVec.allOnes_xor]
  show IntKind.i64.wrap ((BitVec.ofInt 64 (-1) ^^^ BitVec.ofInt 64 v).toNat : Int) = _
  rw [e, BitVec.toNat_not, BitVec.toNat_ofInt, IntKind.wrap_i64]
  omega

theorem fnRotateInverted_walk (a0 : Int) (w0 : (Lit.int .i64 a0).wf = true) (w : World) :
    Calls Try.prog 4 #[.int .i64 a0] w fun e w' => e = .returned (.bool true) ∧ Grown w w' := by
  obtain ⟨b0, b1⟩ := bounds_i64 w0
  clear w0
  by_cases h0 : a0 = 0
  · subst h0
    go_enter Try.func4, Try.ntmps4
    go_wp2_with fail
    go_ret
    exact ⟨rfl, Grown.refl _⟩
  by_cases h1 : a0 = -1
  · subst h1
    go_enter Try.func4, Try.ntmps4
    go_wp2_with fail
    go_ret
    exact ⟨rfl, Grown.refl _⟩
  obtain ⟨u, hv, hu⟩ := u64_of a0
  have hn := not_i64 a0 b0 b1
  have hsg : IntKind.i64.signed = true := rfl
  have e0 : (a0 == 0) = false := by simp [h0]
  have e1 : (a0 == -1) = false := by simp [h1]
  have hu0 : u ≠ 0 := by rw [IntKind.wrap_u64] at hv; omega
  have hu1 : u ≠ 18446744073709551615 := by rw [IntKind.wrap_u64] at hv; omega
  have hvn : IntKind.u64.wrap (-1 - a0) = ((18446744073709551615 - u : Nat) : Int) := by rw [IntKind.wrap_u64] at hv ⊢; omega
  have he := Lib.hid (Pl.rot_not 64 u hu hu0 hu1)
  have HVN := Lib.hid hvn
  have HV := Lib.hid hv
  have HU := Lib.hid hu
  have k3 := Lib.hid (show Pl.rotB 64 3 = true by decide +kernel)
  have k0 := Lib.hid (show Pl.rotB 64 0 = false by decide +kernel)
  have km := Lib.hid (show Pl.rotB 64 18446744073709551615 = true by decide +kernel)
  have hl := Lib.hid (show 18446744073709551615 - u < 18446744073709551616 by omega)
  clear hvn hv hu hu0 hu1 h0 h1
  go_enter Try.func4, Try.ntmps4
  go_wp2_with fail
  refine (rotate_any _ u HV.out HU.out _).mono ?_
  rintro e w' ⟨rfl, rfl⟩
  go_wp2_with fail
  refine (rotate_any _ _ HVN.out hl.out _).mono ?_
  rw [show Pl.rotB 64 (18446744073709551615 - u) = Pl.rotB 64 u from he.out]
  rintro e w' ⟨rfl, rfl⟩
  go_wp2_with fail
  refine (rotate_any _ 3 (by decide) (by decide) _).mono ?_
  rw [k3.out]
  rintro e w' ⟨rfl, rfl⟩
  go_wp2_with fail
  refine (rotate_any _ 0 (by decide) (by decide) _).mono ?_
  rw [k0.out]
  rintro e w' ⟨rfl, rfl⟩
  go_wp2_with fail
  refine (rotate_any _ 18446744073709551615 (by decide) (by decide) _).mono ?_
  rw [km.out]
  rintro e w' ⟨rfl, rfl⟩
  go_wp2
  go_ret
  exact ⟨rfl, Grown.refl _⟩

theorem i64_back (u : Nat) (hu : u < 18446744073709551616) : IntKind.u64.wrap (wrap64 (u : Int)) = u := by
  rw [IntKind.wrap_u64]; unfold wrap64; omega

theorem fnRotateMade_walk (a0 : Int) (a1 : Int) (w0 : (Lit.int .i64 a0).wf = true) (w1 : (Lit.int .i64 a1).wf = true) (w : World) :
    Calls Try.prog 5 #[.int .i64 a0, .int .i64 a1] w fun e w' => e = .returned (.bool true) ∧ Grown w w' := by
  obtain ⟨b0, b1⟩ := bounds_i64 w0
  obtain ⟨b2, b3⟩ := bounds_i64 w1
  clear w0 w1
  by_cases c1 : a0 < 0
  · go_enter Try.func5, Try.ntmps5
    go_wp2_with fail
    go_ret
    exact ⟨rfl, Grown.refl _⟩
  by_cases c2 : 63 < a0
  · go_enter Try.func5, Try.ntmps5
    go_wp2_with fail
    go_ret
    exact ⟨rfl, Grown.refl _⟩
  by_cases c3 : a1 < 0
  · go_enter Try.func5, Try.ntmps5
    go_wp2_with fail
    go_ret
    exact ⟨rfl, Grown.refl _⟩
  by_cases c4 : 63 < a1
  · go_enter Try.func5, Try.ntmps5
    go_wp2_with fail
    go_ret
    exact ⟨rfl, Grown.refl _⟩
  obtain ⟨f, rfl⟩ := Int.eq_ofNat_of_zero_le (show 0 ≤ a0 by omega)
  obtain ⟨l, rfl⟩ := Int.eq_ofNat_of_zero_le (show 0 ≤ a1 by omega)
  have hf : f < 64 := by omega
  have hl : l < 64 := by omega
  have hm := Lib.hid (Pl.mask64_lt hf hl)
  have hr := Lib.hid ((Pl.rot64_iff _ hm.out).2 ⟨f, l, hf, hl, rfl⟩)
  go_enter Try.func5, Try.ntmps5
  go_wp2_with fail
  refine (mask64_any f l hf hl _).mono ?_
  rintro e w' ⟨rfl, rfl⟩
  go_wp2_with fail
  refine (rotate_any _ (Pl.mask 64 f l) (i64_back _ hm.out) hm.out _).mono ?_
  rw [hr.out]
  rintro e w' ⟨rfl, rfl⟩
  go_wp2
  go_ret
  exact ⟨rfl, Grown.refl _⟩

theorem chk_turn : Pl.allPair 64 (fun f l => Pl.rotB 64 (Pl.rot 63 (Pl.mask 64 f l)) && Pl.rotB 64 (Pl.rot 1 (Pl.mask 64 f l))) = true := by decide +kernel
theorem turn_back (x : Nat) (hx : x < 2 ^ 64) : Pl.rot 63 x < 2 ^ 64 ∧ Pl.rot 1 (Pl.rot 63 x) = x := by
  have e := Pl.rot_eq 63 x (by omega) hx
  have hl : Pl.rot 63 x < 2 ^ 64 := by rw [e]; omega
  refine ⟨hl, ?_⟩
  rw [Pl.rot_eq 1 _ (by omega) hl, e]
  simp only [Nat.reducePow, Nat.reduceSub] at *
  omega
theorem rot_turn (u : Nat) (hu : u < 2 ^ 64) : Pl.rotB 64 (Pl.rot 63 u) = Pl.rotB 64 u := by
  obtain ⟨hl, hb⟩ := turn_back u hu
  rw [Bool.eq_iff_iff]
  constructor
  · intro h
    obtain ⟨f, l, hf, hl2, e⟩ := (Pl.rot64_iff _ hl).1 h
    have := Pl.allPair_at chk_turn hf hl2
    rw [Bool.and_eq_true, ← e, hb] at this
    exact this.2
  · intro h
    obtain ⟨f, l, hf, hl2, e⟩ := (Pl.rot64_iff _ hu).1 h
    have := Pl.allPair_at chk_turn hf hl2
    rw [Bool.and_eq_true, ← e] at this
    exact this.1
theorem turn_form (u : Nat) (hu : u < 18446744073709551616) : bits .or .u64 (IntKind.u64.wrap ((u : Int) * 2)) ((u : Int) / 9223372036854775808) = ((Pl.rot 63 u : Nat) : Int) := by
  have e1 : (u : Int) / (9223372036854775808 : Int) = ((u >>> 63 : Nat) : Int) := by rw [Nat.shiftRight_eq_div_pow]; omega
  have e2 : IntKind.u64.wrap ((u : Int) * 2) = (((u <<< (64 - 63)) % 2 ^ 64 : Nat) : Int) := by
    rw [show ((u : Int) * 2) = ((u * 2 : Nat) : Int) from rfl, u64_nat, Nat.shiftLeft_eq]
  rw [e1, e2, or_nat _ _ (Nat.mod_lt _ (by decide)) (Nat.lt_of_le_of_lt (by rw [Nat.shiftRight_eq_div_pow]; exact Nat.div_le_self _ _) hu), Nat.or_comm]
  rfl

theorem fnRotateTurned_walk (a0 : Int) (_w0 : (Lit.int .i64 a0).wf = true) (w : World) :
    Calls Try.prog 6 #[.int .i64 a0] w fun e w' => e = .returned (.bool true) ∧ Grown w w' := by
  obtain ⟨u, hv, hu⟩ := u64_of a0
  have ht := turn_form u hu
  have HV := Lib.hid hv
  have HU := Lib.hid hu
  have HB := Lib.hid (turn_back u hu)
  have he := Lib.hid (rot_turn u hu)
  have h2 := Lib.hid (show Pl.rotB 64 2 = true by decide +kernel)
  clear hu
  go_enter Try.func6, Try.ntmps6
  go_wp2_with fail
  refine (rotate_any _ u HV.out HU.out _).mono ?_
  rintro e w' ⟨rfl, rfl⟩
  go_wp2_with fail
  refine (rotate_any _ (Pl.rot 63 u) (i64_back _ HB.out.1) HB.out.1 _).mono ?_
  rw [he.out]
  rintro e w' ⟨rfl, rfl⟩
  go_wp2_with fail
  refine (rotate_any _ 2 (by decide) (by decide) _).mono ?_
  rw [h2.out]
  rintro e w' ⟨rfl, rfl⟩
  go_wp2
  go_ret
  exact ⟨rfl, Grown.refl _⟩

theorem chk_bit : Pl.allPair 64 (fun f l => (Pl.mask 64 f l == 18446744073709551615) != Pl.isB (Pl.mask 64 f l)) = true := by decide +kernel

theorem fnRotateBitcon_walk (a0 : Int) (w0 : (Lit.int .i64 a0).wf = true) (w : World) :
    Calls Try.prog 7 #[.int .i64 a0] w fun e w' => e = .returned (.bool true) ∧ Grown w w' := by
  obtain ⟨b0, b1⟩ := bounds_i64 w0
  clear w0
  obtain ⟨u, hv, hu⟩ := u64_of a0
  have HV := Lib.hid hv
  have HU := Lib.hid hu
  have h1 := Lib.hid (show Pl.rotB 64 1 = true by decide +kernel)
  cases hr : Pl.rotB 64 u
  · have HR := Lib.hid hr; clear hr
    clear hu
    go_enter Try.func7, Try.ntmps7
    go_wp2_with fail
    refine (rotate_any _ u HV.out HU.out _).mono ?_
    rw [HR.out]
    rintro e w' ⟨rfl, rfl⟩
    go_wp2_with fail
    refine (rotate_any _ 1 (by decide) (by decide) _).mono ?_
    rw [h1.out]
    rintro e w' ⟨rfl, rfl⟩
    go_wp2_with fail
    go_ret
    exact ⟨rfl, Grown.refl _⟩
  · obtain ⟨f, l, hf, hl, e⟩ := (Pl.rot64_iff _ hu).1 hr
    have hb := Pl.allPair_at chk_bit hf hl
    rw [← e] at hb
    clear e
    have e2 : (a0 == -1) = (u == 18446744073709551615) := by
      rw [IntKind.wrap_u64] at hv
      rw [Bool.eq_iff_iff]; simp only [beq_iff_eq]; omega
    have HE : Hid (((a0 == -1) != Pl.isB u) = true) := Lib.hid (by rw [e2]; exact hb)
    have HR := Lib.hid hr
    clear hr hu e2 hb hf hl
    generalize hq : Pl.isB u = q at HE
    have HQ := Lib.hid hq; clear hq
    cases h3 : (a0 == -1) <;> rw [h3] at HE
    all_goals
      cases q
      all_goals first
        | exact absurd HE.out (by decide)
        | skip
      go_enter Try.func7, Try.ntmps7
      go_wp2_with fail
      refine (rotate_any _ u HV.out HU.out _).mono ?_
      rw [HR.out]
      rintro e w' ⟨rfl, rfl⟩
      go_wp2_with fail
      refine (rotate_any _ u HV.out HU.out _).mono ?_
      rw [HR.out]
      rintro e w' ⟨rfl, rfl⟩
      go_wp2_with fail
      refine (bitcon_any _ u rfl HU.out _).mono ?_
      rw [HQ.out]
      rintro e w' ⟨rfl, rfl⟩
      go_wp2_with fail
      go_ret
      exact ⟨rfl, Grown.refl _⟩
end Go.Proofs.Yteohmffbehbjpaa
