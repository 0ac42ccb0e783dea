/- The walks of the laws on bounds, under what the table of TrailingZeros64 holds. -/
import Derived.Test.YteohmffbehbjpaaDoorBounds
namespace Go.Proofs.YteohmffbehbjpaaDoor
open Go.RowKit

theorem fnBounds_walk (a0 : Int) (w0 : (Lit.int .i64 a0).wf = true) (w : World) (hT : Tab64 w) :
    Calls Tryd.prog 3 #[.int .i64 a0] w fun e w' => e = .returned (.bool true) ∧ Grown w w' := by
  obtain ⟨b0, b1⟩ := bounds_i64 w0
  clear w0
  obtain ⟨u, hv, hu⟩ := u64_of a0
  have HT := Lib.hid hT; clear hT
  have HU := Lib.hid hu
  cases hr : Pl.ringS 64 u
  · have HR := Lib.hid hr; clear hr hu
    go_enter Tryd.func3, Tryd.ntmps3
    go_wp2_with fail
    refine (isring_any _ u rfl HU.out _).mono ?_
    rw [HR.out]
    rintro e w' ⟨rfl, rfl⟩
    go_wp2_with fail
    go_ret
    exact ⟨rfl, Grown.refl _⟩
  have HR := Lib.hid hr
  rw [← Pl.rot_ring 64 u (by decide) hu] at hr
  obtain ⟨f, l, hf, hl, e⟩ := (Pl.rot64_iff u hu).1 hr
  have e1 : (a0 == -1) = (u == 18446744073709551615) := by
    rw [IntKind.wrap_u64] at hv
    rw [Bool.eq_iff_iff]; simp only [beq_iff_eq]; omega
  by_cases hm : u = 18446744073709551615
  · have e2 : (a0 == -1) = true := by rw [e1]; simpa using hm
    clear hr e e1 hm hu
    go_enter Tryd.func3, Tryd.ntmps3
    go_wp2_with fail
    refine (isring_any _ u rfl HU.out _).mono ?_
    rw [HR.out]
    rintro e w' ⟨rfl, rfl⟩
    go_wp2_with fail
    go_ret
    exact ⟨rfl, Grown.refl _⟩
  · have e2 : (a0 == -1) = false := by rw [e1]; simpa using hm
    have HM := Lib.hid (show Pl.mask 64 f l ≠ 18446744073709551615 by rw [← e]; exact hm)
    have HV := Lib.hid (show IntKind.u64.wrap a0 = (Pl.mask 64 f l : Nat) by rw [hv, e])
    have HE := Lib.hid e.symm
    clear hr e e1 hm hu
    go_enter Tryd.func3, Tryd.ntmps3
    go_wp2_with fail
    refine (isring_any _ u rfl HU.out _).mono ?_
    rw [HR.out]
    rintro e w' ⟨rfl, rfl⟩
    go_wp2_with fail
    refine (bounds_any _ f l hf hl HV HM _ HT).mono ?_
    rintro e w' ⟨rfl, rfl⟩
    go_wp2_with fail
    refine (mask64_any f l hf hl _).mono ?_
    rw [HE.out]
    rintro e w' ⟨rfl, rfl⟩
    go_wp2
    go_ret
    exact ⟨rfl, Grown.refl _⟩
theorem i64_back (u : Nat) (hu : u < 18446744073709551616) : IntKind.u64.wrap (wrap64 (u : Int)) = u := by
  rw [IntKind.wrap_u64]; unfold wrap64; omega

theorem fnBoundsMade_main (f l : Nat) (hf : f < 64) (hl : l < 64) (w : World) (HT : Hid (Tab64 w)) :
    Calls Tryd.prog 4 #[.int .i64 f, .int .i64 l] w fun e w' => e = .returned (.bool true) ∧ Grown w w' := by
  have HM := Lib.hid (Pl.mask64_lt hf hl)
  obtain ⟨u, hu⟩ : ∃ u, u = Pl.mask 64 f l := ⟨_, rfl⟩
  have HE := Lib.hid hu
  by_cases h : u = 18446744073709551615
  · have e1 : ((u : Int) == 18446744073709551615) = true := by simp only [beq_iff_eq]; omega
    clear hu h
    go_enter Tryd.func4, Tryd.ntmps4
    go_wp2_with fail
    refine (mask64_any f l hf hl _).mono ?_
    rw [← HE.out]
    rintro e w' ⟨rfl, rfl⟩
    go_wp2_with fail
    go_ret
    exact ⟨rfl, Grown.refl _⟩
  · have e1 : ((u : Int) == 18446744073709551615) = false := by simp only [beq_eq_false_iff_ne, ne_eq]; omega
    have HN := Lib.hid (show Pl.mask 64 f l ≠ 18446744073709551615 by rw [← hu]; exact h)
    have HV := Lib.hid (show IntKind.u64.wrap (wrap64 (u : Int)) = (Pl.mask 64 f l : Nat) by rw [hu]; exact i64_back _ HM.out)
    clear hu h
    go_enter Tryd.func4, Tryd.ntmps4
    go_wp2_with fail
    refine (mask64_any f l hf hl _).mono ?_
    rw [← HE.out]
    rintro e w' ⟨rfl, rfl⟩
    go_wp2_with fail
    refine (mask64_any f l hf hl _).mono ?_
    rw [← HE.out]
    rintro e w' ⟨rfl, rfl⟩
    go_wp2_with fail
    refine (bounds_any _ f l hf hl HV HN _ HT).mono ?_
    rintro e w' ⟨rfl, rfl⟩
    go_wp2
    go_ret
    exact ⟨rfl, Grown.refl _⟩

theorem fnBoundsMade_walk (a0 : Int) (a1 : Int) (w0 : (Lit.int .i64 a0).wf = true) (w1 : (Lit.int .i64 a1).wf = true) (w : World) (hT : Tab64 w) :
    Calls Tryd.prog 4 #[.int .i64 a0, .int .i64 a1] w fun e w' => e = .returned (.bool true) ∧ Grown w w' := by
  obtain ⟨b0, b1⟩ := bounds_i64 w0
  obtain ⟨b2, b3⟩ := bounds_i64 w1
  have HT := Lib.hid hT
  clear w0 w1 hT
  by_cases c1 : a0 < 0
  · go_enter Tryd.func4, Tryd.ntmps4
    go_wp2_with fail
    go_ret
    exact ⟨rfl, Grown.refl _⟩
  by_cases c2 : 63 < a0
  · go_enter Tryd.func4, Tryd.ntmps4
    go_wp2_with fail
    go_ret
    exact ⟨rfl, Grown.refl _⟩
  by_cases c3 : a1 < 0
  · go_enter Tryd.func4, Tryd.ntmps4
    go_wp2_with fail
    go_ret
    exact ⟨rfl, Grown.refl _⟩
  by_cases c4 : 63 < a1
  · go_enter Tryd.func4, Tryd.ntmps4
    go_wp2_with fail
    go_ret
    exact ⟨rfl, Grown.refl _⟩
  obtain ⟨f, rfl⟩ := Int.eq_ofNat_of_zero_le (show 0 ≤ a0 by omega)
  obtain ⟨l, rfl⟩ := Int.eq_ofNat_of_zero_le (show 0 ≤ a1 by omega)
  exact fnBoundsMade_main f l (by omega) (by omega) w HT
end Go.Proofs.YteohmffbehbjpaaDoor
