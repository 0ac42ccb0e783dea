/- The walks of the three laws on sequences of ones. -/
import Derived.Test.YtjlanmoainaedaaOnesWalks
namespace Go.Proofs.Ytjlanmoainaedaa
open Go.RowKit

theorem ones_eq_run (x : Nat) (h0 : x ≠ 0) (hx : x < 18446744073709551616) : Pl.onesB 64 x = Pl.runB 64 x := by
  rw [Bool.eq_iff_iff, Pl.onesB_iff 64 x (by omega) hx, Pl.runB_iff]

theorem fnOnes_walk (a0 : Int) (w0 : (Lit.int .u64 a0).wf = true) (w : World) :
    Calls Try.prog 8 #[.int .u64 a0] w fun e w' => e = .returned (.bool true) ∧ Grown w w' := by
  obtain ⟨b0, b1⟩ := bounds_u64 w0
  obtain ⟨x, rfl⟩ := Int.eq_ofNat_of_zero_le b0
  clear w0 b0
  by_cases h0 : x = 0
  · subst h0
    go_enter Try.func8, Try.ntmps8
    go_wp2
    go_ret
    exact ⟨rfl, Grown.refl _⟩
  have e0 : ((x : Int) == 0) = false := by simp; omega
  by_cases h1 : x = 18446744073709551615
  · have e1 : ((x : Int) == 18446744073709551615) = true := by simp; omega
    clear h1
    go_enter Try.func8, Try.ntmps8
    go_wp2
    go_ret
    exact ⟨rfl, Grown.refl _⟩
  have e1 : ((x : Int) == 18446744073709551615) = false := by simp; omega
  have hb := Lib.hid (ones_eq_run x h0 (by omega))
  have hx : x < 18446744073709551616 := by omega
  have h6 := Lib.hid (show Pl.onesB 64 6 = true by decide +kernel)
  go_enter Try.func8, Try.ntmps8
  go_wp2_with fail
  refine (isones_any _ x rfl hx _).mono ?_
  rw [hb.out]
  rintro e w' ⟨rfl, rfl⟩
  go_wp2_with fail
  refine (isrun_any _ x rfl _).mono ?_
  rintro e w' ⟨rfl, rfl⟩
  go_wp2_with fail
  refine (isones_any _ 6 rfl (by decide) _).mono ?_
  rw [h6.out]
  rintro e w' ⟨rfl, rfl⟩
  go_wp2
  go_ret
  exact ⟨rfl, Grown.refl _⟩

theorem made_ones (n b : Nat) (h1 : 1 ≤ n) (h2 : n + b ≤ 64) : Pl.onesB 64 ((2 ^ n - 1) * 2 ^ b) = true := by
  have hr : Pl.Run 64 ((2 ^ n - 1) * 2 ^ b) := ⟨n, b, h1, h2, rfl⟩
  obtain ⟨_, _, _, _, _, h3, h4⟩ := Pl.run_odd 64 _ hr
  exact (Pl.onesB_iff 64 _ h3 h4).2 hr

theorem fnOnesMade_walk (a0 : Int) (a1 : Int) (w0 : (Lit.int .i64 a0).wf = true) (w1 : (Lit.int .i64 a1).wf = true) (w : World) :
    Calls Try.prog 9 #[.int .i64 a0, .int .i64 a1] w fun e w' => e = .returned (.bool true) ∧ Grown w w' := by
  obtain ⟨b0, b1⟩ := bounds_i64 w0
  obtain ⟨b2, b3⟩ := bounds_i64 w1
  clear w0 w1
  by_cases c1 : a0 < 1
  · go_enter Try.func9, Try.ntmps9
    go_wp2
    go_ret
    exact ⟨rfl, Grown.refl _⟩
  by_cases c2 : 63 < a0
  · go_enter Try.func9, Try.ntmps9
    go_wp2
    go_ret
    exact ⟨rfl, Grown.refl _⟩
  by_cases c3 : a1 < 0
  · go_enter Try.func9, Try.ntmps9
    go_wp2
    go_ret
    exact ⟨rfl, Grown.refl _⟩
  by_cases c4 : 63 < a1
  · go_enter Try.func9, Try.ntmps9
    go_wp2
    go_ret
    exact ⟨rfl, Grown.refl _⟩
  by_cases c5 : 64 < a1 + a0
  · go_enter Try.func9, Try.ntmps9
    go_wp2
    go_ret
    exact ⟨rfl, Grown.refl _⟩
  obtain ⟨n, rfl⟩ := Int.eq_ofNat_of_zero_le (show 0 ≤ a0 by omega)
  obtain ⟨b, rfl⟩ := Int.eq_ofNat_of_zero_le (show 0 ≤ a1 by omega)
  have hl := run_lt n b (by omega)
  have hb := Lib.hid (made_ones n b (by omega) (by omega))
  go_enter Try.func9, Try.ntmps9
  go_wp2_with fail
  refine (ones_any _ n rfl (by omega) _).mono ?_
  rintro e w' ⟨rfl, rfl⟩
  go_wp2_with fail
  refine (isones_any _ ((2 ^ n - 1) * 2 ^ b) (shl_form _ _ hl) hl _).mono ?_
  rw [hb.out]
  rintro e w' ⟨rfl, rfl⟩
  go_wp2
  go_ret
  exact ⟨rfl, Grown.refl _⟩
end Go.Proofs.Ytjlanmoainaedaa
