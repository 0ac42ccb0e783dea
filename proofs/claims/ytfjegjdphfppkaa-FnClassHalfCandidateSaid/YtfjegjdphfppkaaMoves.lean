/- Plain facts on a piece of 16 bits, and the contract of movcon. -/
import Derived.Test.YtfjegjdphfppkaaProg
import Derived.Test.YtfjegjdphfppkaaU64
namespace Go.Proofs.Ytfjegjdphfppkaa
open Go.RowKit

/-- All bits of u that are not among the 16 from place 16 k on are 0. -/
def hit (u k : Nat) : Bool := u &&& (18446744073709551615 - 65535 * 2 ^ (16 * k)) == 0
/-- What 'movcon' finds, from place 16 k on. -/
def movN (u : Nat) : Int := if hit u 0 then 0 else if hit u 1 then 16 else if hit u 2 then 32 else if hit u 3 then 48 else -1

theorem and_split (k a b r t : Nat) (hr : r < 2 ^ k) (ht : t < 2 ^ k) : (2 ^ k * a + r) &&& (2 ^ k * b + t) = 2 ^ k * (a &&& b) + (r &&& t) := by
  apply Nat.eq_of_testBit_eq
  intro i
  rw [Nat.testBit_and, Nat.testBit_two_pow_mul_add a hr, Nat.testBit_two_pow_mul_add b ht, Nat.testBit_two_pow_mul_add _ (Nat.and_lt_two_pow _ ht)]
  split <;> rw [Nat.testBit_and]

theorem hit_iff (u k : Nat) (hu : u < 18446744073709551616) (hk : k < 4) : hit u k = true ↔ u % 2 ^ (16 * k) = 0 ∧ u / 2 ^ (16 * k) < 65536 := by
  have hs : 18446744073709551615 - 65535 * 2 ^ (16 * k) = 2 ^ (16 * k + 16) * (2 ^ (48 - 16 * k) - 1) + (2 ^ (16 * k) - 1) := by
    have : k = 0 ∨ k = 1 ∨ k = 2 ∨ k = 3 := by omega
    rcases this with rfl | rfl | rfl | rfl <;> decide
  have hp : 0 < 2 ^ (16 * k) := Nat.pow_pos (by omega)
  have hp2 : 0 < 2 ^ (16 * k + 16) := Nat.pow_pos (by omega)
  have hle : 2 ^ (16 * k) ≤ 2 ^ (16 * k + 16) := Nat.pow_le_pow_right (by omega) (by omega)
  have ha : u / 2 ^ (16 * k + 16) < 2 ^ (48 - 16 * k) := by
    apply Nat.div_lt_of_lt_mul
    rw [← Nat.pow_add]
    have e : 16 * k + 16 + (48 - 16 * k) = 64 := by omega
    rw [e]; exact hu
  have hd : u = 2 ^ (16 * k + 16) * (u / 2 ^ (16 * k + 16)) + u % 2 ^ (16 * k + 16) := (Nat.div_add_mod _ _).symm
  have hm : u % 2 ^ (16 * k + 16) % 2 ^ (16 * k) = u % 2 ^ (16 * k) := Nat.mod_mod_of_dvd _ (Nat.pow_dvd_pow _ (by omega))
  have hdd : u / 2 ^ (16 * k) / 65536 = u / 2 ^ (16 * k + 16) := by rw [Nat.div_div_eq_div_mul, Nat.pow_add]
  unfold hit
  rw [hs, beq_iff_eq]
  conv => lhs; rw [hd]
  rw [and_split _ _ _ _ _ (Nat.mod_lt _ hp2) (by omega), Nat.and_two_pow_sub_one_of_lt_two_pow ha, Nat.and_two_pow_sub_one_eq_mod, hm]
  constructor
  · intro h
    have h1 : 2 ^ (16 * k + 16) * (u / 2 ^ (16 * k + 16)) = 0 := by omega
    have h2 : u / 2 ^ (16 * k + 16) = 0 := by
      rcases Nat.mul_eq_zero.1 h1 with h | h
      · omega
      · exact h
    exact ⟨by omega, by have := hdd.trans h2; omega⟩
  · rintro ⟨h1, h2⟩
    have h3 : u / 2 ^ (16 * k + 16) = 0 := by rw [← hdd]; exact Nat.div_eq_of_lt h2
    rw [h1, h3, Nat.mul_zero]

theorem hit_form (u k : Nat) (hu : u < 18446744073709551616) (hk : k < 4) : (bits .andNot .u64 (u : Int) (IntKind.u64.wrap (65535 * 2 ^ (16 * k))) == 0) = hit u k := by
  have e : IntKind.u64.wrap (65535 * 2 ^ (16 * k)) = ((65535 * 2 ^ (16 * k) : Nat) : Int) := by
    have : k = 0 ∨ k = 1 ∨ k = 2 ∨ k = 3 := by omega
    rcases this with rfl | rfl | rfl | rfl <;> decide
  have hl : 65535 * 2 ^ (16 * k) < 18446744073709551616 := by
    have : k = 0 ∨ k = 1 ∨ k = 2 ∨ k = 3 := by omega
    rcases this with rfl | rfl | rfl | rfl <;> decide
  rw [e, u64_andNot_nat _ _ hu hl]
  exact nat_beq _ 0

def NoHit (u k : Nat) : Prop := ∀ i, i < k → hit u i = false

theorem hit_first (u k : Nat) (hk : k < 4) (hn : NoHit u k) (h : hit u k = true) : (16 * (k : Int)) = movN u := by
  unfold movN
  have : k = 0 ∨ k = 1 ∨ k = 2 ∨ k = 3 := by omega
  rcases this with rfl | rfl | rfl | rfl
  · simp [h]
  · simp [hn 0 (by omega), h]
  · simp [hn 0 (by omega), hn 1 (by omega), h]
  · simp [hn 0 (by omega), hn 1 (by omega), hn 2 (by omega), h]
theorem hit_none (u k : Nat) (hk : ¬ k < 4) (hn : NoHit u k) : (-1 : Int) = movN u := by
  unfold movN
  simp [hn 0 (by omega), hn 1 (by omega), hn 2 (by omega), hn 3 (by omega)]
theorem hit_next (u k : Nat) (hn : NoHit u k) (h : hit u k = false) : NoHit u (k + 1) := by
  intro i hi
  by_cases e : i = k
  · subst e; exact h
  · exact hn i (by omega)

theorem movcon_any (v : Int) (u : Nat) (hv : IntKind.u64.wrap v = u) (hu : u < 18446744073709551616) (w : World) :
    Calls Try.prog 37 #[.int .i64 v] w fun e w' => e = .returned (.int .i64 (movN u)) ∧ w = w' := by
  go_enter Try.func37, Try.ntmps37
  go_wp2
  go_loop [3] (fun s => ∃ k : Nat, k ≤ 4 ∧ s = .int .i64 (16 * (k : Int)) ∧ NoHit u k) (fun s => 64 - (intOf s).toNat)
  case atStart => exact ⟨0, by omega, rfl, fun i hi => by omega⟩
  case round =>
    obtain ⟨k, hk, rfl, hno⟩ := hrel
    by_cases hlt : k < 4
    · have hf := Lib.hid (hit_form u k hu hlt)
      go_wp2
      · have h1 : hit u k = true := hf.out.symm.trans ‹_›
        go_ret
        exact ⟨ret_int (hit_first u k hlt hno h1), rfl⟩
      · have h1 : hit u k = false := hf.out.symm.trans ‹_›
        go_round
        case rel => exact ⟨k + 1, by omega, by go_num, hit_next u k hno h1⟩
        case measure => simp [intOf]; omega
    · go_wp2
      go_ret
      exact ⟨ret_int (hit_none u k hlt hno), rfl⟩
end Go.Proofs.Ytfjegjdphfppkaa
