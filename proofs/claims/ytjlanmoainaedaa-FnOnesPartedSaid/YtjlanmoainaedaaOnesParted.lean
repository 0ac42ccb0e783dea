/- The walk of the law on ones with a zero between them. -/
import Derived.Test.YtjlanmoainaedaaOnesLaws
namespace Go.Proofs.Ytjlanmoainaedaa
open Go.RowKit

theorem odd_pow (a : Nat) (h1 : a % 2 = 1) (h2 : 1 < a) : ¬ a.isPowerOfTwo := by
  rintro ⟨k, hk⟩
  rcases Nat.eq_zero_or_pos k with h | h
  · subst h; simp at hk; omega
  · obtain ⟨j, rfl⟩ : ∃ j, k = j + 1 := ⟨k - 1, by omega⟩
    rw [Nat.pow_succ] at hk
    omega

theorem parted_num (n g m : Nat) : ((2 ^ n - 1) * 2 ^ (g + (m + 1)) ||| (2 ^ (m + 1) - 1)) = (2 ^ n - 1) * 2 ^ (g + (m + 1)) + (2 ^ (m + 1) - 1) := by
  have h : 2 ^ (m + 1) - 1 < 2 ^ (g + (m + 1)) := by
    have h1 : 2 ^ (m + 1) ≤ 2 ^ (g + (m + 1)) := Nat.pow_le_pow_right (by omega) (by omega)
    have h2 : 0 < 2 ^ (m + 1) := Nat.pow_pos (by omega)
    omega
  rw [← Nat.shiftLeft_eq, Nat.shiftLeft_add_eq_or_of_lt h]

theorem parted_no (n g m b : Nat) (hn : 1 ≤ n) (hg : 1 ≤ g) (hm : 1 ≤ m) (hs : n + g + m + b ≤ 64) :
    (((2 ^ n - 1) * 2 ^ (g + m) ||| (2 ^ m - 1)) * 2 ^ b < 18446744073709551616) ∧ Pl.onesB 64 (((2 ^ n - 1) * 2 ^ (g + m) ||| (2 ^ m - 1)) * 2 ^ b) = false := by
  obtain ⟨m, rfl⟩ : ∃ j, m = j + 1 := ⟨m - 1, by omega⟩
  rw [parted_num]
  have p1 : 0 < 2 ^ n := Nat.pow_pos (by omega)
  have p2 : 0 < 2 ^ b := Nat.pow_pos (by omega)
  have p3 : 0 < 2 ^ (m + 1) := Nat.pow_pos (by omega)
  have p4 : 2 ^ (m + 1) = 2 * 2 ^ m := Nat.pow_succ'
  have p4' : 0 < 2 ^ m := Nat.pow_pos (by omega)
  have p5 : 2 ^ n = 2 * 2 ^ (n - 1) := by rw [← Nat.pow_succ']; congr 1; omega
  have p5' : 0 < 2 ^ (n - 1) := Nat.pow_pos (by omega)
  have p6 : 2 ^ g = 2 * 2 ^ (g - 1) := by rw [← Nat.pow_succ']; congr 1; omega
  have p6' : 0 < 2 ^ (g - 1) := Nat.pow_pos (by omega)
  have e : (2 ^ n - 1) * 2 ^ (g + (m + 1)) + 2 ^ (m + 1) = 2 ^ (m + 1) * ((2 ^ n - 1) * 2 ^ g + 1) := by
    rw [Nat.pow_add, Nat.mul_add, Nat.mul_one, ← Nat.mul_assoc, Nat.mul_comm _ (2 ^ (m + 1))]
  have eo : (2 ^ n - 1) * 2 ^ (g + (m + 1)) = 2 * ((2 ^ n - 1) * (2 ^ g * 2 ^ m)) := by
    rw [Nat.pow_add, p4, ← Nat.mul_assoc, Nat.mul_left_comm, Nat.mul_assoc]
  have hlt : ((2 ^ n - 1) * 2 ^ (g + (m + 1)) + (2 ^ (m + 1) - 1)) * 2 ^ b < 2 ^ 64 := by
    have h1 : (2 ^ n - 1) * 2 ^ (g + (m + 1)) + (2 ^ (m + 1) - 1) < 2 ^ n * 2 ^ (g + (m + 1)) := by
      have h2 : (2 ^ n - 1) * 2 ^ (g + (m + 1)) + 2 ^ (g + (m + 1)) = 2 ^ n * 2 ^ (g + (m + 1)) := by
        rw [← Nat.succ_mul]; congr 1; omega
      have h3 : 2 ^ (m + 1) ≤ 2 ^ (g + (m + 1)) := Nat.pow_le_pow_right (by omega) (by omega)
      omega
    have h4 : 2 ^ n * 2 ^ (g + (m + 1)) * 2 ^ b ≤ 2 ^ 64 := by
      rw [← Nat.pow_add, ← Nat.pow_add]; exact Nat.pow_le_pow_right (by omega) (by omega)
    exact Nat.lt_of_lt_of_le (Nat.mul_lt_mul_of_pos_right h1 p2) h4
  refine ⟨hlt, ?_⟩
  have ho : ((2 ^ n - 1) * 2 ^ (g + (m + 1)) + (2 ^ (m + 1) - 1)) % 2 = 1 := by omega
  rw [Nat.mul_comm] at hlt ⊢
  cases h : Pl.onesB 64 (2 ^ b * ((2 ^ n - 1) * 2 ^ (g + (m + 1)) + (2 ^ (m + 1) - 1))) with
  | false => rfl
  | true =>
    have h1 := (Pl.onesB_iff 64 _ (Nat.mul_pos p2 (by omega)) hlt).1 h
    have h2 := (Pl.zero_iff 64 b _ ho hlt).1 ((Pl.run_iff_zero 64 _ (Nat.mul_pos p2 (by omega)) hlt).2 h1)
    have e2 : (2 ^ n - 1) * 2 ^ (g + (m + 1)) + (2 ^ (m + 1) - 1) + 1 = 2 ^ (m + 1) * ((2 ^ n - 1) * 2 ^ g + 1) := by omega
    rw [e2, Pl.pow_part] at h2
    have e3 : (2 ^ n - 1) * 2 ^ g = 2 * ((2 ^ n - 1) * 2 ^ (g - 1)) := by
      rw [p6, ← Nat.mul_assoc, Nat.mul_comm _ 2, Nat.mul_assoc]
    have e4 : 0 < (2 ^ n - 1) * 2 ^ (g - 1) := Nat.mul_pos (by omega) p6'
    exact absurd h2 (odd_pow _ (by omega) (by omega))

theorem or_form (a b : Nat) (ha : a < 18446744073709551616) (hb : b < 18446744073709551616) : bits .or .u64 (a : Int) (b : Int) = ((a ||| b : Nat) : Int) := u64_or_nat a b ha hb

theorem parted_form (n g m b : Nat) (hn : 1 ≤ n) (hg : 1 ≤ g) (hm : 1 ≤ m) (hs : n + g + m + b ≤ 64) :
    IntKind.u64.wrap (bits .or .u64 (IntKind.u64.wrap (((2 ^ n - 1 : Nat) : Int) * 2 ^ (g + m))) ((2 ^ m - 1 : Nat) : Int) * 2 ^ b) = ((((2 ^ n - 1) * 2 ^ (g + m) ||| (2 ^ m - 1)) * 2 ^ b : Nat) : Int) := by
  have h1 := run_lt n (g + m) (by omega)
  have h2 := run_lt m 0 (by omega)
  rw [Nat.pow_zero, Nat.mul_one] at h2
  rw [shl_form _ _ h1, or_form _ _ h1 h2, shl_form _ _ (parted_no n g m b hn hg hm hs).1]

theorem parted_call (n g m b : Nat) (h1 : 1 ≤ n) (h2 : 1 ≤ g) (h3 : 1 ≤ m) (h4 : n + g + m + b ≤ 64) (w : World) :
    Calls Try.prog 19 #[.int .u64 (IntKind.u64.wrap (bits .or .u64 (IntKind.u64.wrap (((2 ^ n - 1 : Nat) : Int) * 2 ^ (g + m))) ((2 ^ m - 1 : Nat) : Int) * 2 ^ b))] w fun e w' => e = .returned (.bool false) ∧ w = w' := by
  have hp := parted_no n g m b h1 h2 h3 h4
  have := isones_any _ _ (parted_form n g m b h1 h2 h3 h4) hp.1 w
  rwa [hp.2] at this
theorem whole_call (n : Nat) (h1 : 1 ≤ n) (h2 : n ≤ 64) (w : World) :
    Calls Try.prog 19 #[.int .u64 ((2 ^ n - 1 : Nat) : Int)] w fun e w' => e = .returned (.bool true) ∧ w = w' := by
  have hb := made_ones n 0 h1 (by omega)
  have hl := run_lt n 0 (by omega)
  rw [Nat.pow_zero, Nat.mul_one] at hb hl
  have := isones_any _ (2 ^ n - 1) rfl hl w
  rwa [hb] at this

set_option maxHeartbeats 800000 in
theorem fnOnesParted_main (n g m b : Nat) (h1 : 1 ≤ n) (h2 : 1 ≤ g) (h3 : 1 ≤ m) (h4 : n + g + m + b ≤ 64) (w : World) :
    Calls Try.prog 10 #[.int .i64 n, .int .i64 g, .int .i64 m, .int .i64 b] w fun e w' => e = .returned (.bool true) ∧ Grown w w' := by
  have d1 : decide ((n : Int) < 1) = false := by simp; omega
  have d2 : decide ((g : Int) < 1) = false := by simp; omega
  have d3 : decide ((m : Int) < 1) = false := by simp; omega
  have d4 : decide ((b : Int) < 0) = false := by simp
  have d5 : decide (64 < (n : Int)) = false := by simp; omega
  have d6 : decide (64 < (g : Int)) = false := by simp; omega
  have d7 : decide (64 < (m : Int)) = false := by simp; omega
  have d8 : decide (64 < (b : Int)) = false := by simp; omega
  have d9 : decide (64 < (n : Int) + (g : Int) + (m : Int) + (b : Int)) = false := by simp; omega
  have hs : IntKind.i64.wrap ((g : Int) + (m : Int)) = (g : Int) + (m : Int) := IntWalk.i64_in _ (by omega)
  have hs0 : (0 : Int) ≤ (g : Int) + (m : Int) := by omega
  have hs1 : ((g : Int) + (m : Int)).toNat = g + m := by omega
  go_enter Try.func10, Try.ntmps10
  go_wp2_with fail
  clear d1 d2 d3 d4 d5 d6 d7 d8 d9
  go_quiet ((first | (go_at_call 21; exact quiet_left (ones_any _ n rfl (by omega) _)) | (go_at_call 21; exact quiet_left (ones_any _ m rfl (by omega) _)) | (go_at_call 19; exact quiet_left (parted_call n g m b h1 h2 h3 h4 _)) | (go_at_call 19; exact quiet_left (whole_call n h1 (by omega) _))))
  go_wp2
  go_ret
  exact ⟨rfl, grown_drewN (Grown.refl _) _⟩

theorem fnOnesParted_walk (a0 : Int) (a1 : Int) (a2 : Int) (a3 : Int) (w0 : (Lit.int .i64 a0).wf = true) (w1 : (Lit.int .i64 a1).wf = true) (w2 : (Lit.int .i64 a2).wf = true) (w3 : (Lit.int .i64 a3).wf = true) (w : World) :
    Calls Try.prog 10 #[.int .i64 a0, .int .i64 a1, .int .i64 a2, .int .i64 a3] w fun e w' => e = .returned (.bool true) ∧ Grown w w' := by
  obtain ⟨_, _⟩ := bounds_i64 w0
  obtain ⟨_, _⟩ := bounds_i64 w1
  obtain ⟨_, _⟩ := bounds_i64 w2
  obtain ⟨_, _⟩ := bounds_i64 w3
  clear w0 w1 w2 w3
  by_cases c1 : a0 < 1
  · go_enter Try.func10, Try.ntmps10
    go_wp2
    go_ret
    exact ⟨rfl, Grown.refl _⟩
  by_cases c2 : a1 < 1
  · go_enter Try.func10, Try.ntmps10
    go_wp2
    go_ret
    exact ⟨rfl, Grown.refl _⟩
  by_cases c3 : a2 < 1
  · go_enter Try.func10, Try.ntmps10
    go_wp2
    go_ret
    exact ⟨rfl, Grown.refl _⟩
  by_cases c4 : a3 < 0
  · go_enter Try.func10, Try.ntmps10
    go_wp2
    go_ret
    exact ⟨rfl, Grown.refl _⟩
  by_cases c5 : 64 < a0
  · go_enter Try.func10, Try.ntmps10
    go_wp2
    go_ret
    exact ⟨rfl, Grown.refl _⟩
  by_cases c6 : 64 < a1
  · go_enter Try.func10, Try.ntmps10
    go_wp2
    go_ret
    exact ⟨rfl, Grown.refl _⟩
  by_cases c7 : 64 < a2
  · go_enter Try.func10, Try.ntmps10
    go_wp2
    go_ret
    exact ⟨rfl, Grown.refl _⟩
  by_cases c8 : 64 < a3
  · go_enter Try.func10, Try.ntmps10
    go_wp2
    go_ret
    exact ⟨rfl, Grown.refl _⟩
  by_cases c9 : 64 < a0 + a1 + a2 + a3
  · go_enter Try.func10, Try.ntmps10
    go_wp2
    go_ret
    exact ⟨rfl, Grown.refl _⟩
  obtain ⟨n, rfl⟩ := Int.eq_ofNat_of_zero_le (show 0 ≤ a0 by omega)
  obtain ⟨g, rfl⟩ := Int.eq_ofNat_of_zero_le (show 0 ≤ a1 by omega)
  obtain ⟨m, rfl⟩ := Int.eq_ofNat_of_zero_le (show 0 ≤ a2 by omega)
  obtain ⟨b, rfl⟩ := Int.eq_ofNat_of_zero_le (show 0 ≤ a3 by omega)
  exact fnOnesParted_main n g m b (by omega) (by omega) (by omega) (by omega) w
end Go.Proofs.Ytjlanmoainaedaa
