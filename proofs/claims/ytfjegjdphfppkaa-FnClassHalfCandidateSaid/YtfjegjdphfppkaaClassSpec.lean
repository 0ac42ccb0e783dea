/- The contracts of Class in both modes, of the reference's Pieces and IsWord, and of the laws' own isMove and narrow. -/
import Derived.Test.YtfjegjdphfppkaaClassWalks
import Derived.Test.YtfjegjdphfppkaaSpecWalks
namespace Go.Proofs.Ytfjegjdphfppkaa
open Go.RowKit

theorem class_64 (v : Int) (u n : Nat) (b0 : -9223372036854775808 ≤ v) (b1 : v ≤ 9223372036854775807) (hv : Hid (IntKind.u64.wrap v = u)) (hu : Hid (u < 18446744073709551616))
    (HN : Hid (IntKind.u64.wrap (-1 - v) = n)) (hnl : Hid (n < 18446744073709551616)) (w : World) :
    Calls Try.prog 15 #[.int .i64 v, .int .i64 64] w fun e w' => e = .returned (.int .i64 (classZ v (Pl.isB u) (movN u) (movN n))) ∧ w = w' := by
  go_enter Try.func15, Try.ntmps15
  go_wp2_with (first | (go_at_call 33; (with_reducible refine (conclass_64 v u n b0 b1 hv.out hu HN hnl _).mono ?_); rintro e w' ⟨rfl, rfl⟩) | go_in)
  go_ret
  exact ⟨rfl, rfl⟩

def pcs (u f : Nat) : Nat → Nat
  | 0 => 0
  | k + 1 => pcs u f k + (if u / 2 ^ (16 * k) % 65536 = f then 0 else 1)

theorem pcs_le (u f k : Nat) : pcs u f k ≤ k := by
  induction k with
  | zero => exact Nat.le_refl _
  | succ k ih => unfold pcs; split <;> omega

theorem piece_form (u k : Nat) (hu : u < 18446744073709551616) : bits .and .u64 ((u : Int) / 2 ^ (16 * k)) 65535 = ((u / 2 ^ (16 * k) % 65536 : Nat) : Int) := by
  have hl : u / 2 ^ (16 * k) < 18446744073709551616 := Nat.lt_of_le_of_lt (Nat.div_le_self _ _) hu
  have e : (u : Int) / 2 ^ (16 * k) = ((u / 2 ^ (16 * k) : Nat) : Int) := by rw [two_pow_cast]; rfl
  have e2 := u64_and_nat (u / 2 ^ (16 * k)) 65535 hl (by decide)
  rw [nat_mask16] at e2
  rw [e]
  exact e2

theorem pieces_any (v : Int) (u f : Nat) (zf : Int) (hzf : zf = f) (hv : IntKind.u64.wrap v = u) (hu : Hid (u < 18446744073709551616)) (w : World) :
    Calls Try.prog 31 #[.int .i64 v, .int .u64 zf] w fun e w' => e = .returned (.int .i64 (pcs u f 4)) ∧ w = w' := by
  subst hzf
  go_enter Try.func31, Try.ntmps31
  go_wp2
  go_loop [5, 6] (fun c s => ∃ k m : Nat, k ≤ 4 ∧ m ≤ 4 ∧ m ≤ k ∧ s = .int .i64 (16 * (k : Int)) ∧ c = .int .i64 m ∧ m = pcs u f k) (fun _ s => 64 - (intOf s).toNat)
  case atStart => exact ⟨0, 0, by omega, by omega, by omega, rfl, rfl, rfl⟩
  case round =>
    obtain ⟨k, m, hk, hm, hmk, rfl, rfl, he⟩ := hrel
    have HE := Lib.hid he; clear he
    by_cases hlt : k < 4
    · have hf := piece_form u k hu.out
      by_cases e : u / 2 ^ (16 * k) % 65536 = f
      · have e1 : (((u / 2 ^ (16 * k) % 65536 : Nat) : Int) != (f : Int)) = false := by simp only [bne_eq_false_iff_eq]; omega
        have hn := Lib.hid (show m = pcs u f (k + 1) by unfold pcs; rw [if_pos e, ← HE.out]; rfl)
        generalize u / 2 ^ (16 * k) % 65536 = q at *
        clear e
        go_wp2
        go_round
        case rel => exact ⟨k + 1, m, by omega, by omega, by omega, by go_num, rfl, hn.out⟩
        case measure => simp [intOf]; omega
      · have e1 : (((u / 2 ^ (16 * k) % 65536 : Nat) : Int) != (f : Int)) = true := by simp only [bne_iff_ne, ne_eq]; omega
        have hn := Lib.hid (show m + 1 = pcs u f (k + 1) by unfold pcs; rw [if_neg e, ← HE.out])
        generalize u / 2 ^ (16 * k) % 65536 = q at *
        clear e
        go_wp2
        go_round
        case rel => exact ⟨k + 1, m + 1, by omega, by omega, by omega, by go_num, by go_num, hn.out⟩
        case measure => simp [intOf]; omega
    · obtain rfl : k = 4 := by omega
      go_wp2
      go_ret
      exact ⟨ret_int (by rw [HE.out]), rfl⟩

def moveB (u : Nat) : Bool := decide (pcs u 0 4 ≤ 1) || decide (pcs u 65535 4 ≤ 1)

theorem ismove_any (v : Int) (u : Nat) (hv : Hid (IntKind.u64.wrap v = u)) (hu : Hid (u < 18446744073709551616)) (w : World) :
    Calls Try.prog 25 #[.int .i64 v] w fun e w' => e = .returned (.bool (moveB u)) ∧ w = w' := by
  obtain ⟨p, hp⟩ : ∃ p, p = pcs u 0 4 := ⟨_, rfl⟩
  obtain ⟨q, hq⟩ : ∃ q, q = pcs u 65535 4 := ⟨_, rfl⟩
  have hb : moveB u = (decide (p ≤ 1) || decide (q ≤ 1)) := by rw [hp, hq]; rfl
  have HB := Lib.hid hb; have HP := Lib.hid hp; have HQ := Lib.hid hq
  clear hb hp hq
  by_cases h1 : (p : Int) ≤ 1
  · go_enter Try.func25, Try.ntmps25
    go_wp2_with fail
    refine (pieces_any _ u 0 _ rfl hv.out hu _).mono ?_
    rw [← HP.out]
    rintro e w' ⟨rfl, rfl⟩
    go_wp2_with fail
    go_ret
    exact ⟨ret_bool (by rw [HB.out, decide_eq_true (show p ≤ 1 by omega)]; rfl), rfl⟩
  · by_cases h2 : (q : Int) ≤ 1
    all_goals
      go_enter Try.func25, Try.ntmps25
      go_wp2_with fail
      refine (pieces_any _ u 0 _ rfl hv.out hu _).mono ?_
      rw [← HP.out]
      rintro e w' ⟨rfl, rfl⟩
      go_wp2_with fail
      refine (pieces_any _ u 65535 _ rfl hv.out hu _).mono ?_
      rw [← HQ.out]
      rintro e w' ⟨rfl, rfl⟩
      go_wp2_with fail
      go_ret
      exact ⟨ret_bool (by rw [HB.out, decide_eq_false (show ¬ p ≤ 1 by omega), Bool.false_or, Bool.eq_iff_iff]; simp; try omega), rfl⟩

theorem hit_lit (u : Nat) (hu : u < 18446744073709551616) : 0 ≤ movN u ↔ (u < 65536 ∨ (u % 65536 = 0 ∧ u / 65536 < 65536) ∨ (u % 4294967296 = 0 ∧ u / 4294967296 < 65536) ∨ (u % 281474976710656 = 0 ∧ u / 281474976710656 < 65536)) := by
  have h0 := hit_iff u 0 hu (by omega)
  have h1 := hit_iff u 1 hu (by omega)
  have h2 := hit_iff u 2 hu (by omega)
  have h3 := hit_iff u 3 hu (by omega)
  simp only [Nat.reduceMul, Nat.reducePow, Nat.mul_zero, Nat.pow_zero, Nat.mod_one, Nat.div_one, true_and] at h0 h1 h2 h3
  rw [← h0, ← h1, ← h2, ← h3]
  unfold movN
  cases hit u 0 <;> cases hit u 1 <;> cases hit u 2 <;> cases hit u 3 <;> simp

theorem pcs4 (u f : Nat) : pcs u f 4 = (if u % 65536 = f then 0 else 1) + (if u / 65536 % 65536 = f then 0 else 1) + (if u / 4294967296 % 65536 = f then 0 else 1) + (if u / 281474976710656 % 65536 = f then 0 else 1) := by
  simp only [pcs, Nat.reduceMul, Nat.reducePow, Nat.mul_zero, Nat.pow_zero, Nat.div_one, Nat.zero_add]

theorem pcs_mov (u : Nat) (hu : u < 18446744073709551616) : pcs u 0 4 ≤ 1 ↔ 0 ≤ movN u := by
  rw [hit_lit u hu, pcs4]
  split <;> split <;> split <;> split <;> omega

theorem pcs_not (u : Nat) (hu : u < 18446744073709551616) : pcs u 65535 4 = pcs (18446744073709551615 - u) 0 4 := by
  rw [pcs4, pcs4]
  have a1 : u % 65536 = 65535 ↔ (18446744073709551615 - u) % 65536 = 0 := by omega
  have a2 : u / 65536 % 65536 = 65535 ↔ (18446744073709551615 - u) / 65536 % 65536 = 0 := by omega
  have a3 : u / 4294967296 % 65536 = 65535 ↔ (18446744073709551615 - u) / 4294967296 % 65536 = 0 := by omega
  have a4 : u / 281474976710656 % 65536 = 65535 ↔ (18446744073709551615 - u) / 281474976710656 % 65536 = 0 := by omega
  simp only [a1, a2, a3, a4]

theorem move_iff (u : Nat) (hu : u < 18446744073709551616) : moveB u = true ↔ 0 ≤ movN u ∨ 0 ≤ movN (18446744073709551615 - u) := by
  unfold moveB
  rw [Bool.or_eq_true, decide_eq_true_eq, decide_eq_true_eq, pcs_not u hu, pcs_mov u hu, pcs_mov _ (by omega)]

theorem word_any (v : Int) (w : World) : Calls Try.prog 22 #[.int .i64 v] w fun e w' => e = .returned (.bool (wordB v)) ∧ w = w' := by
  by_cases h0 : -2147483648 ≤ v
  · by_cases h1 : v < 4294967296
    all_goals
      go_enter Try.func22, Try.ntmps22
      go_wp2
      go_ret
      exact ⟨ret_bool (by simp [wordB]; omega), rfl⟩
  · go_enter Try.func22, Try.ntmps22
    go_wp2
    go_ret
    exact ⟨ret_bool (by simp [wordB]; omega), rfl⟩
end Go.Proofs.Ytfjegjdphfppkaa
