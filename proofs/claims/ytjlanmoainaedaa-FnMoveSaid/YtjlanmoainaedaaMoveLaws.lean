/- The walks of the three laws on moves. -/
import Derived.Test.YtjlanmoainaedaaMoves
namespace Go.Proofs.Ytjlanmoainaedaa
open Go.RowKit

theorem moveof_any (v : Int) (u : Nat) (hv : IntKind.u64.wrap v = u) (hu : u < 18446744073709551616) (w : World) :
    Calls Try.prog 22 #[.int .i64 v] w fun e w' => e = .returned (.int .i64 (movN u)) ∧ w = w' := by
  have HV := Lib.hid hv; clear hv
  go_enter Try.func22, Try.ntmps22
  go_wp2_with (first | (go_at_call 30; refine (movcon_any _ u HV.out hu _).mono ?_; rintro e w' ⟨rfl, rfl⟩) | go_in)
  go_ret
  exact ⟨rfl, rfl⟩

theorem u64_of (v : Int) : ∃ u : Nat, IntKind.u64.wrap v = u ∧ u < 18446744073709551616 := by
  refine ⟨(v % 18446744073709551616).toNat, ?_, by omega⟩
  rw [IntKind.wrap_u64]; omega
theorem u64_zero (v : Int) (u : Nat) (b0 : -9223372036854775808 ≤ v) (b1 : v ≤ 9223372036854775807) (h : IntKind.u64.wrap v = u) : v = 0 ↔ u = 0 := by
  rw [IntKind.wrap_u64] at h; omega

def lastN (u : Nat) : Nat → Int
  | 0 => -1
  | j + 1 => if hit u j then 16 * (j : Int) else lastN u j

theorem two_hits (u i j : Nat) (hu : u < 18446744073709551616) (hij : i < j) (hj : j < 4) (h1 : hit u i = true) (h2 : hit u j = true) : u = 0 := by
  obtain ⟨a1, a2⟩ := (hit_iff u i hu (by omega)).1 h1
  obtain ⟨b1, b2⟩ := (hit_iff u j hu hj).1 h2
  have hi : i = 0 ∨ i = 1 ∨ i = 2 := by omega
  have hjj : j = 1 ∨ j = 2 ∨ j = 3 := by omega
  rcases hi with rfl | rfl | rfl <;> rcases hjj with rfl | rfl | rfl <;> simp only [Nat.reduceMul, Nat.reducePow, Nat.mul_zero, Nat.pow_zero] at a1 a2 b1 b2 <;> omega

theorem last_eq (u : Nat) (hu : u < 18446744073709551616) (h0 : u ≠ 0) : lastN u 4 = movN u := by
  have t := fun i j (hij : i < j) (hj : j < 4) (h1 : hit u i = true) (h2 : hit u j = true) => h0 (two_hits u i j hu hij hj h1 h2)
  unfold movN
  simp only [lastN]
  cases c0 : hit u 0 <;> cases c1 : hit u 1 <;> cases c2 : hit u 2 <;> cases c3 : hit u 3 <;> simp
  · exact (t 2 3 (by omega) (by omega) c2 c3).elim
  · exact (t 1 3 (by omega) (by omega) c1 c3).elim
  · exact (t 1 2 (by omega) (by omega) c1 c2).elim
  · exact (t 1 2 (by omega) (by omega) c1 c2).elim
  all_goals first | exact (t 0 1 (by omega) (by omega) c0 c1).elim | exact (t 0 2 (by omega) (by omega) c0 c2).elim | exact (t 0 3 (by omega) (by omega) c0 c3).elim

theorem last_yes (u j : Nat) (h : hit u j = true) : lastN u (j + 1) = 16 * (j : Int) := by simp [lastN, h]
theorem last_no (u j : Nat) (h : hit u j = false) : lastN u (j + 1) = lastN u j := by simp [lastN, h]

theorem fnMove_walk (a0 : Int) (w0 : (Lit.int .i64 a0).wf = true) (w : World) :
    Calls Try.prog 11 #[.int .i64 a0] w fun e w' => e = .returned (.bool true) ∧ Grown w w' := by
  obtain ⟨b0, b1⟩ := bounds_i64 w0
  obtain ⟨u, hv, hu⟩ := u64_of a0
  have hz := Lib.hid (u64_zero a0 u b0 b1 hv)
  clear w0
  have k1 := Lib.hid (show movN 1048576 = 16 by decide +kernel)
  go_enter Try.func11, Try.ntmps11
  go_wp2
  go_loop [3, 4] (fun at_ s => ∃ k : Nat, k ≤ 4 ∧ s = .int .i64 (16 * (k : Int)) ∧ at_ = .int .i64 (lastN u k)) (fun _ s => 64 - (intOf s).toNat)
  case atStart => exact ⟨0, by omega, rfl, rfl⟩
  case round =>
    obtain ⟨k, hk, rfl, rfl⟩ := hrel
    by_cases hlt : k < 4
    · have hf := Lib.hid (hit_form u k hu hlt)
      go_wp2
      · have h1 : hit u k = true := hf.out.symm.trans ‹_›
        go_round
        case rel => exact ⟨k + 1, by omega, by go_num, by rw [last_yes u k h1]⟩
        case measure => simp [intOf]; omega
      · have h1 : hit u k = false := hf.out.symm.trans ‹_›
        go_round
        case rel => exact ⟨k + 1, by omega, by go_num, by rw [last_no u k h1]⟩
        case measure => simp [intOf]; omega
    · obtain rfl : k = 4 := by omega
      by_cases h0 : u = 0
      · have e0 : (a0 == 0) = true := by have := hz.out.2 h0; simp [this]
        go_wp2
        go_ret
        exact ⟨rfl, Grown.refl _⟩
      · have e0 : (a0 == 0) = false := by have := mt hz.out.1 h0; simp [this]
        have hl := Lib.hid (last_eq u hu h0)
        rw [hl.out]
        have HV := Lib.hid hv; clear hv
        go_wp2_with fail
        refine (moveof_any _ u HV.out hu _).mono ?_
        rintro e w' ⟨rfl, rfl⟩
        go_wp2_with fail
        refine (moveof_any _ 1048576 (by decide) (by decide) _).mono ?_
        rw [k1.out]
        rintro e w' ⟨rfl, rfl⟩
        go_wp2
        go_ret
        exact ⟨rfl, Grown.refl _⟩
end Go.Proofs.Ytjlanmoainaedaa
