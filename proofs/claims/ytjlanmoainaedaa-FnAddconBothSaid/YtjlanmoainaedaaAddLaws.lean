/- The walks of the five laws on addcons. -/
import Derived.Test.YtjlanmoainaedaaAddWalks
namespace Go.Proofs.Ytjlanmoainaedaa
open Go.RowKit

theorem zadd2_any (v : Int) (w : World) : Calls Try.prog 14 #[.int .i64 v] w fun e w' => e = .returned (.bool (add24B v)) ∧ w = w' := by
  go_enter Try.func14, Try.ntmps14
  go_wp2_with (first | (go_at_call 27; refine (addcon2_any _ _).mono ?_; rintro e w' ⟨rfl, rfl⟩) | go_in)
  go_ret
  exact ⟨rfl, rfl⟩
theorem zadd_any (v : Int) (hv : v ≤ 9223372036854775807) (w : World) : Calls Try.prog 17 #[.int .i64 v] w fun e w' => e = .returned (.bool (addB v)) ∧ w = w' := by
  go_enter Try.func17, Try.ntmps17
  go_wp2_with (first | (go_at_call 28; refine (addcon_any _ hv _).mono ?_; rintro e w' ⟨rfl, rfl⟩) | go_in)
  go_ret
  exact ⟨rfl, rfl⟩

theorem fnAddcon2_walk (a0 : Int) (_w0 : (Lit.int .i64 a0).wf = true) (w : World) :
    Calls Try.prog 3 #[.int .i64 a0] w fun e w' => e = .returned (.bool true) ∧ Grown w w' := by
  have h1 : add24B 1 = true := by decide
  go_enter Try.func3, Try.ntmps3
  go_wp2_with (first | (go_at_call 14; refine (zadd2_any _ _).mono ?_; rintro e w' ⟨rfl, rfl⟩) | (go_at_call 15; refine (add24_any _ _).mono ?_; rintro e w' ⟨rfl, rfl⟩))
  go_ret
  exact ⟨rfl, Grown.refl _⟩

theorem fnAddcon_walk (a0 : Int) (w0 : (Lit.int .i64 a0).wf = true) (w : World) :
    Calls Try.prog 5 #[.int .i64 a0] w fun e w' => e = .returned (.bool true) ∧ Grown w w' := by
  have hb := (bounds_i64 w0).2
  clear w0
  have h1 : addB 1 = true := by decide
  go_enter Try.func5, Try.ntmps5
  go_wp2_with (first | (go_at_call 17; refine (zadd_any _ (by omega) _).mono ?_; rintro e w' ⟨rfl, rfl⟩) | (go_at_call 18; refine (isadd_any _ _).mono ?_; rintro e w' ⟨rfl, rfl⟩))
  go_ret
  exact ⟨rfl, Grown.refl _⟩

theorem fnAddconMade_walk (a0 : Int) (w0 : (Lit.int .i64 a0).wf = true) (w : World) :
    Calls Try.prog 6 #[.int .i64 a0] w fun e w' => e = .returned (.bool true) ∧ Grown w w' := by
  obtain ⟨b0, b1⟩ := bounds_i64 w0
  clear w0
  by_cases h : 0 ≤ a0 ∧ a0 < 4096
  · obtain ⟨h0, h1⟩ := h
    have a1 : add12B a0 = true := by simp [add12B]; omega
    have a2 : addB a0 = true := by simp [addB]; omega
    have a3 : addB (a0 * 4096) = true := by simp [addB]; omega
    go_enter Try.func6, Try.ntmps6
    go_wp2_with (first | (go_at_call 17; refine (zadd_any _ (by omega) _).mono ?_; rintro e w' ⟨rfl, rfl⟩) | (go_at_call 16; refine (add12_any _ _).mono ?_; rintro e w' ⟨rfl, rfl⟩))
    go_ret
    exact ⟨rfl, Grown.refl _⟩
  · have a1 : add12B a0 = false := by simp [add12B]; omega
    clear h
    go_enter Try.func6, Try.ntmps6
    go_wp2_with (go_at_call 16; refine (add12_any _ _).mono ?_; rintro e w' ⟨rfl, rfl⟩)
    go_ret
    exact ⟨rfl, Grown.refl _⟩

theorem fnAddconSum_walk (a0 : Int) (a1 : Int) (w0 : (Lit.int .i64 a0).wf = true) (w1 : (Lit.int .i64 a1).wf = true) (w : World) :
    Calls Try.prog 4 #[.int .i64 a0, .int .i64 a1] w fun e w' => e = .returned (.bool true) ∧ Grown w w' := by
  obtain ⟨b0, b1⟩ := bounds_i64 w0
  obtain ⟨b2, b3⟩ := bounds_i64 w1
  clear w0 w1
  by_cases h : 0 ≤ a0 ∧ a0 < 4096
  · have c1 : add12B a0 = true := by simp [add12B]; omega
    obtain ⟨h0, h1⟩ := h
    by_cases g : 0 ≤ a1 ∧ a1 < 4096
    · have c2 : add12B a1 = true := by simp [add12B]; omega
      obtain ⟨g0, g1⟩ := g
      have c3 : add24B (a0 + a1 * 4096) = true := by simp [add24B]; omega
      go_enter Try.func4, Try.ntmps4
      go_wp2_with (first | (go_at_call 14; refine (zadd2_any _ _).mono ?_; rintro e w' ⟨rfl, rfl⟩) | (go_at_call 16; refine (add12_any _ _).mono ?_; rintro e w' ⟨rfl, rfl⟩))
      go_ret
      exact ⟨rfl, Grown.refl _⟩
    · have c2 : add12B a1 = false := by simp [add12B]; omega
      clear g
      go_enter Try.func4, Try.ntmps4
      go_wp2_with (go_at_call 16; refine (add12_any _ _).mono ?_; rintro e w' ⟨rfl, rfl⟩)
      go_ret
      exact ⟨rfl, Grown.refl _⟩
  · have c1 : add12B a0 = false := by simp [add12B]; omega
    clear h
    go_enter Try.func4, Try.ntmps4
    go_wp2_with (go_at_call 16; refine (add12_any _ _).mono ?_; rintro e w' ⟨rfl, rfl⟩)
    go_ret
    exact ⟨rfl, Grown.refl _⟩

theorem andNot_4095 (v : Int) (h0 : 0 ≤ v) (h1 : v < 16777216) : bits .andNot .i64 v 4095 = v / 4096 * 4096 := by
  obtain ⟨a, rfl⟩ := Int.eq_ofNat_of_zero_le h0
  have ha : a < 16777216 := by omega
  have e1 : (BitVec.ofInt 64 (a : Int)).toNat = a := by rw [BitVec.ofInt_natCast, BitVec.toNat_ofNat]; exact Nat.mod_eq_of_lt (by omega)
  have e2 : (~~~ BitVec.ofInt 64 (4095 : Int)).toNat = 18446744073709547520 := by decide
  have e3 : a &&& 18446744073709547520 = a / 4096 * 4096 := by
    have h := Nat.and_div_two_pow (a := a) (b := 18446744073709547520) (n := 12)
    have h2 := Nat.and_mod_two_pow (a := a) (b := 18446744073709547520) (n := 12)
    have h3 : (18446744073709547520 : Nat) / 2 ^ 12 = 2 ^ 52 - 1 := by decide
    have h4 : (18446744073709547520 : Nat) % 2 ^ 12 = 0 := by decide
    rw [h3, Nat.and_two_pow_sub_one_of_lt_two_pow (by omega)] at h
    rw [h4, Nat.and_zero] at h2
    omega
  show IntKind.i64.wrap ((BitVec.ofInt 64 (a : Int) &&& ~~~ BitVec.ofInt 64 (4095 : Int)).toNat : Int) = _
  rw [BitVec.toNat_and, e1, e2, e3, IntKind.wrap_i64]
  omega

theorem fnAddconBoth_walk (a0 : Int) (w0 : (Lit.int .i64 a0).wf = true) (w : World) :
    Calls Try.prog 7 #[.int .i64 a0] w fun e w' => e = .returned (.bool true) ∧ Grown w w' := by
  obtain ⟨b0, b1⟩ := bounds_i64 w0
  clear w0
  have k1 : add24B 1 = true := by decide
  by_cases h : 0 ≤ a0 ∧ a0 < 16777216
  · have c1 : add24B a0 = true := by simp [add24B]; omega
    obtain ⟨h0, h1⟩ := h
    have e1 := and_4095 a0 h0 b1
    have e2 := andNot_4095 a0 h0 h1
    have c2 : addB (a0 % 4096) = true := by simp [addB]; omega
    have c3 : addB (a0 / 4096 * 4096) = true := by simp [addB]; omega
    cases c4 : addB a0
    all_goals
      go_enter Try.func7, Try.ntmps7
      go_wp2_with (first | (go_at_call 14; refine (zadd2_any _ _).mono ?_; rintro e w' ⟨rfl, rfl⟩) | (go_at_call 17; refine (zadd_any _ (by omega) _).mono ?_; rintro e w' ⟨rfl, rfl⟩))
      go_ret
      exact ⟨rfl, Grown.refl _⟩
  · have c1 : add24B a0 = false := by simp [add24B]; omega
    have c4 : addB a0 = false := by simp [addB]; omega
    clear h
    go_enter Try.func7, Try.ntmps7
    go_wp2_with (first | (go_at_call 14; refine (zadd2_any _ _).mono ?_; rintro e w' ⟨rfl, rfl⟩) | (go_at_call 17; refine (zadd_any _ (by omega) _).mono ?_; rintro e w' ⟨rfl, rfl⟩))
    go_ret
    exact ⟨rfl, Grown.refl _⟩
end Go.Proofs.Ytjlanmoainaedaa
