/- The walks of the laws FnDouble and FnDoubleMade, under what the table of TrailingZeros64 holds. -/
import Derived.Test.YticennjldlbpfaaDoorDecFacts
namespace Go.Proofs.YticennjldlbpfaaDoor
open Go.RowKit
set_option linter.unusedVariables false

theorem fnDouble_no (v : Int) (u a b : Nat) (hv : IntKind.u64.wrap v = u) (HV : Hid (IntKind.u64.wrap v = u)) (HU : Hid (u < 18446744073709551616)) (HA : Hid (64 - (Lib.bitLen u : Int) = a)) (HB : Hid (decEnd (Lib.ctz 64 u) = b)) (HR : Hid (Pl.runB 64 u = false)) (w : World) (HT : Hid (Tab64 w)) :
    Calls Tryd.prog 7 #[.int .i64 v] w fun e w' => e = .returned (.bool true) ∧ Grown w w' := by
  go_enter Tryd.func7, Tryd.ntmps7
  go_wp2_with fail
  refine (idec64_any _ u a b _ HV HU HA HB HR _ HT).mono ?_
  rintro e w' ⟨rfl, rfl⟩
  go_wp2_with fail
  refine (idec64_one _ HT).mono ?_
  rintro e w' ⟨rfl, rfl⟩
  go_wp2_with fail
  refine (isrun_any _ u rfl _).mono ?_
  rw [HR.out]
  rintro e w' ⟨rfl, rfl⟩
  go_wp2_with fail
  go_ret
  exact ⟨rfl, Grown.refl _⟩
theorem fnDouble_yes (v : Int) (u a b : Nat) (ha : a < 64) (hb : b < 64) (hab : a ≤ b) (HM : Hid (Pl.mask 64 a b = u)) (hv : IntKind.u64.wrap v = u) (HV : Hid (IntKind.u64.wrap v = u)) (HU : Hid (u < 18446744073709551616)) (HA : Hid (64 - (Lib.bitLen u : Int) = a)) (HB : Hid (decEnd (Lib.ctz 64 u) = b)) (HR : Hid (Pl.runB 64 u = true)) (w : World) (HT : Hid (Tab64 w)) :
    Calls Tryd.prog 7 #[.int .i64 v] w fun e w' => e = .returned (.bool true) ∧ Grown w w' := by
  go_enter Tryd.func7, Tryd.ntmps7
  go_wp2_with fail
  refine (idec64_any _ u a b _ HV HU HA HB HR _ HT).mono ?_
  rintro e w' ⟨rfl, rfl⟩
  go_wp2_with fail
  refine (idec64_one _ HT).mono ?_
  rintro e w' ⟨rfl, rfl⟩
  go_wp2_with fail
  refine (isrun_any _ u rfl _).mono ?_
  rw [HR.out]
  rintro e w' ⟨rfl, rfl⟩
  go_wp2_with fail
  refine (mask64_any a b ha hb _).mono ?_
  rw [HM.out]
  rintro e w' ⟨rfl, rfl⟩
  go_wp2
  go_ret
  exact ⟨rfl, Grown.refl _⟩
theorem fnDouble_walk (a0 : Int) (w0 : (Lit.int .i64 a0).wf = true) (w : World) (hT : Tab64 w) :
    Calls Tryd.prog 7 #[.int .i64 a0] w fun e w' => e = .returned (.bool true) ∧ Grown w w' := by
  obtain ⟨u, hv, hu⟩ := u64_of a0
  have l1 : Lib.bitLen u ≤ 64 := bitLenAux_le 64 u
  obtain ⟨k, hk, _⟩ := decEnd_nat _ (ctz_le u hu)
  cases hr : Pl.runB 64 u
  · exact fnDouble_no a0 u (64 - Lib.bitLen u) k hv (Lib.hid hv) (Lib.hid hu) (Lib.hid (by omega)) (Lib.hid hk) (Lib.hid hr) w (Lib.hid hT)
  · obtain ⟨f, l, hf, hl, hfl, rfl⟩ := run_mask u hr
    obtain ⟨_, g2, g3⟩ := dec_facts f l hf hl hfl
    exact fnDouble_yes a0 _ f l hf hl hfl (Lib.hid rfl) hv (Lib.hid hv) (Lib.hid hu) (Lib.hid g2) (Lib.hid g3) (Lib.hid hr) w (Lib.hid hT)

theorem fnDoubleMade_main (f l u : Nat) (hf : f < 64) (hl : l < 64) (hfl : f ≤ l) (HE : Hid (Pl.mask 64 f l = u)) (HU : Hid (u < 18446744073709551616)) (HV : Hid (IntKind.u64.wrap (wrap64 (u : Int)) = (u : Int))) (HA : Hid (64 - (Lib.bitLen u : Int) = f)) (HB : Hid (decEnd (Lib.ctz 64 u) = l)) (HR : Hid (Pl.runB 64 u = true)) (w : World) (HT : Hid (Tab64 w)) :
    Calls Tryd.prog 8 #[.int .i64 f, .int .i64 l] w fun e w' => e = .returned (.bool true) ∧ Grown w w' := by
  go_enter Tryd.func8, Tryd.ntmps8
  go_wp2_with fail
  refine (mask64_any f l hf hl _).mono ?_
  rw [HE.out]
  rintro e w' ⟨rfl, rfl⟩
  go_wp2_with fail
  refine (idec64_any _ u f l true HV HU HA HB HR _ HT).mono ?_
  rintro e w' ⟨rfl, rfl⟩
  go_wp2
  go_ret
  exact ⟨rfl, Grown.refl _⟩
theorem fnDoubleMade_walk (a0 : Int) (a1 : Int) (w0 : (Lit.int .i64 a0).wf = true) (w1 : (Lit.int .i64 a1).wf = true) (w : World) (hT : Tab64 w) :
    Calls Tryd.prog 8 #[.int .i64 a0, .int .i64 a1] w fun e w' => e = .returned (.bool true) ∧ Grown w w' := by
  obtain ⟨b0, b1⟩ := bounds_i64 w0
  obtain ⟨b2, b3⟩ := bounds_i64 w1
  have HT := Lib.hid hT
  clear w0 w1 hT
  by_cases c1 : a0 < 0
  · go_enter Tryd.func8, Tryd.ntmps8
    go_wp2_with fail
    go_ret
    exact ⟨rfl, Grown.refl _⟩
  by_cases c2 : a1 < a0
  · go_enter Tryd.func8, Tryd.ntmps8
    go_wp2_with fail
    go_ret
    exact ⟨rfl, Grown.refl _⟩
  by_cases c3 : 63 < a1
  · go_enter Tryd.func8, Tryd.ntmps8
    go_wp2_with fail
    go_ret
    exact ⟨rfl, Grown.refl _⟩
  obtain ⟨f, rfl⟩ := Int.eq_ofNat_of_zero_le (show 0 ≤ a0 by omega)
  obtain ⟨l, rfl⟩ := Int.eq_ofNat_of_zero_le (show 0 ≤ a1 by omega)
  have hf : f < 64 := by omega
  have hl : l < 64 := by omega
  have hfl : f ≤ l := by omega
  have hu := Pl.mask64_lt hf hl
  obtain ⟨g1, g2, g3⟩ := dec_facts f l hf hl hfl
  exact fnDoubleMade_main f l _ hf hl hfl (Lib.hid rfl) (Lib.hid hu) (Lib.hid (i64_back _ hu)) (Lib.hid g2) (Lib.hid g3) (Lib.hid g1) w HT
end Go.Proofs.YticennjldlbpfaaDoor
