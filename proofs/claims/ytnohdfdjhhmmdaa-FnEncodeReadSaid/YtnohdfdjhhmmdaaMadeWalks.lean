/- The contracts of the reference's Turned, Repeated, Made, IsPeriod, IsMade and IsBitcon. -/
import Derived.Test.YtnohdfdjhhmmdaaBitWalks
namespace Go.Proofs.Ytnohdfdjhhmmdaa
open Go.RowKit

theorem rotN_succ (c x : Nat) : Pl.rotN (c + 1) x = Pl.rot 1 (Pl.rotN c x) := by
  induction c generalizing x with
  | zero => rfl
  | succ c ih => exact ih (Pl.rot 1 x)

theorem turn1_lt (p a : Nat) (hp : 1 ≤ p) (hp2 : p ≤ 64) (ha : a < 18446744073709551616) : Pl.turn1 p a < 18446744073709551616 := by
  unfold Pl.turn1
  apply Nat.or_lt_two_pow (n := 64)
  · rw [Nat.shiftRight_eq_div_pow]; exact Nat.lt_of_le_of_lt (Nat.div_le_self _ _) ha
  · rw [Nat.shiftLeft_eq, nat_mask1]
    have h1 : a % 2 ≤ 1 := by omega
    have h2 : 2 ^ (p - 1) ≤ 2 ^ 63 := Nat.pow_le_pow_right (by omega) (by omega)
    have h3 : a % 2 * 2 ^ (p - 1) ≤ 1 * 2 ^ (p - 1) := Nat.mul_le_mul_right _ h1
    omega

theorem turn_one_form (p a : Nat) (hp : 1 ≤ p) (hp2 : p ≤ 64) (ha : a < 18446744073709551616) :
    bits .or .u64 ((a : Int) / 2) (IntKind.u64.wrap (bits .and .u64 (a : Int) 1 * 2 ^ (p - 1))) = ((Pl.turn1 p a : Nat) : Int) := by
  have e1 : bits .and .u64 (a : Int) 1 = ((a &&& 1 : Nat) : Int) := u64_and_nat a 1 ha (by decide)
  have hl : (a &&& 1) * 2 ^ (p - 1) < 18446744073709551616 := by
    rw [nat_mask1]
    have h1 : a % 2 ≤ 1 := by omega
    have h2 : 2 ^ (p - 1) ≤ 2 ^ 63 := Nat.pow_le_pow_right (by omega) (by omega)
    have h3 : a % 2 * 2 ^ (p - 1) ≤ 1 * 2 ^ (p - 1) := Nat.mul_le_mul_right _ h1
    omega
  have e2 : (a : Int) / (2 : Int) = ((a >>> 1 : Nat) : Int) := by rw [Nat.shiftRight_eq_div_pow]; omega
  rw [e1, shl_form _ _ hl, e2, or_nat _ _ (by rw [Nat.shiftRight_eq_div_pow]; omega) hl]
  unfold Pl.turn1
  rw [Nat.shiftLeft_eq]

theorem turned_any (x p b : Nat) (hx : x < 18446744073709551616) (hp : 1 ≤ p) (hp2 : p ≤ 64) (hb : b ≤ 64) (w : World) :
    Calls Try.prog 24 #[.int .u64 x, .int .i64 p, .int .i64 b] w fun e w' => e = .returned (.int .u64 (Pl.turned p b x)) ∧ w = w' := by
  go_enter Try.func24, Try.ntmps24
  go_wp2
  go_loop [0, 7] (fun v i => ∃ a k : Nat, a < 18446744073709551616 ∧ k ≤ b ∧ v = .int .u64 a ∧ i = .int .i64 k ∧ Pl.turned p (b - k) a = Pl.turned p b x) (fun _ i => b - (intOf i).toNat)
  case atStart => exact ⟨x, 0, hx, by omega, rfl, rfl, rfl⟩
  case round =>
    obtain ⟨a, k, ha, hk, rfl, rfl, hg⟩ := hrel
    have HG := Lib.hid hg; clear hg
    have hf := turn_one_form p a hp hp2 ha
    by_cases hlt : k < b
    · have hn := Lib.hid (show Pl.turned p (b - (k + 1)) (Pl.turn1 p a) = Pl.turned p b x by
        rw [← HG.out, show b - k = (b - (k + 1)) + 1 by omega]; rfl)
      have ht := Lib.hid (turn1_lt p a hp hp2 ha)
      go_wp2
      go_round
      case rel => exact ⟨_, k + 1, ht.out, by omega, rfl, by go_num, hn.out⟩
      case measure => simp [intOf]; omega
    · obtain rfl : k = b := by omega
      go_wp2
      go_ret
      have h1 := HG.out
      rw [Nat.sub_self] at h1
      exact ⟨ret_int (congrArg Nat.cast h1), rfl⟩

theorem turned_lt (x p b : Nat) (hx : x < 18446744073709551616) (hp : 1 ≤ p) (hp2 : p ≤ 64) : Pl.turned p b x < 18446744073709551616 := by
  induction b generalizing x with
  | zero => exact hx
  | succ b ih => exact ih _ (turn1_lt p x hp hp2 hx)

theorem rep_form (p a : Nat) (_hp : p ≤ 64) (ha : a < 18446744073709551616) :
    bits .or .u64 (a : Int) (IntKind.u64.wrap ((a : Int) * 2 ^ p)) = ((a ||| ((a <<< p) % 2 ^ 64) : Nat) : Int) := by
  rw [mul_pow_cast, u64_nat, or_nat _ _ ha (Nat.mod_lt _ (by decide)), Nat.shiftLeft_eq]

theorem repeated_any (x p : Nat) (f : Nat) (hx : x < 18446744073709551616) (hp : 2 ≤ p) (hp2 : p ≤ 64) (hf : 64 ≤ p * 2 ^ f) (w : World) :
    Calls Try.prog 23 #[.int .u64 x, .int .i64 p] w fun e w' => e = .returned (.int .u64 (Pl.repF f p x)) ∧ w = w' := by
  go_enter Try.func23, Try.ntmps23
  go_wp2
  go_loop [0, 1] (fun v i => ∃ a q g : Nat, a < 18446744073709551616 ∧ 2 ≤ q ∧ q ≤ 126 ∧ 64 ≤ q * 2 ^ g ∧ v = .int .u64 a ∧ i = .int .i64 q ∧ Pl.repF g q a = Pl.repF f p x) (fun _ i => 126 - (intOf i).toNat)
  case atStart => exact ⟨x, p, f, hx, hp, by omega, hf, rfl, rfl, rfl⟩
  case round =>
    obtain ⟨a, q, g, ha, hq, hq2, hqg, rfl, rfl, hg⟩ := hrel
    have HG := Lib.hid hg; clear hg
    have HQ := Lib.hid hqg; clear hqg
    by_cases hlt : q < 64
    · have hff := rep_form q a (by omega) ha
      obtain ⟨g', hg'⟩ : ∃ g', g = g' + 1 := by
        rcases Nat.eq_zero_or_pos g with h | h
        · have := HQ.out; rw [h, Nat.pow_zero] at this; omega
        · exact ⟨g - 1, by omega⟩
      have hn := Lib.hid (show Pl.repF g' (q * 2) (a ||| ((a <<< q) % 2 ^ 64)) = Pl.repF f p x by
        rw [← HG.out, hg']
        show _ = (if q < 64 then Pl.repF g' (q * 2) (a ||| ((a <<< q) % 2 ^ 64)) else a)
        rw [if_pos hlt])
      have hq' := Lib.hid (show 64 ≤ q * 2 * 2 ^ g' by have := HQ.out; rw [hg', Nat.pow_succ'] at this; rw [Nat.mul_assoc]; exact this)
      have hl := Lib.hid (show (a ||| ((a <<< q) % 2 ^ 64)) < 18446744073709551616 from Nat.or_lt_two_pow (n := 64) ha (Nat.mod_lt _ (by decide)))
      clear hg'
      go_wp2
      go_round
      case rel => exact ⟨_, q * 2, g', hl.out, by omega, by omega, hq'.out, rfl, by go_num, hn.out⟩
      case measure => simp [intOf]; omega
    · have hn := Lib.hid (show a = Pl.repF f p x by
        rw [← HG.out]
        cases g with
        | zero => rfl
        | succ g' =>
          show _ = (if q < 64 then Pl.repF g' (q * 2) (a ||| ((a <<< q) % 2 ^ 64)) else a)
          rw [if_neg hlt])
      go_wp2
      go_ret
      exact ⟨ret_int (congrArg Nat.cast hn.out), rfl⟩

theorem per_fuel {p : Nat} (hp : p ∈ Pl.periods) : 2 ≤ p ∧ p ≤ 64 ∧ 64 ≤ p * 2 ^ 6 := by
  simp only [Pl.periods, List.mem_cons, List.not_mem_nil, or_false] at hp
  rcases hp with rfl | rfl | rfl | rfl | rfl | rfl <;> decide

theorem made_any (p n b : Nat) (zb : Int) (hb0 : zb = b) (hp : p ∈ Pl.periods) (hn : n < p) (hb : b < p) (w : World) :
    Calls Try.prog 17 #[.int .i64 p, .int .i64 n, .int .i64 zb] w fun e w' => e = .returned (.int .u64 (Pl.made p n b)) ∧ w = w' := by
  obtain ⟨h1, h2, h3⟩ := per_fuel hp
  have H3 := Lib.hid h3
  have HP := Lib.hid hp
  have HB := Lib.hid hb0
  clear hp hb0 h3
  have hl := Lib.hid (run_lt n 0 (by omega))
  have hl2 : 2 ^ n - 1 < 18446744073709551616 := by have := hl.out; rw [Nat.pow_zero, Nat.mul_one] at this; exact this
  have HL := Lib.hid hl2
  clear hl hl2
  go_enter Try.func17, Try.ntmps17
  go_wp2_with fail
  refine (ones_any _ n rfl (by omega) _).mono ?_
  rintro e w' ⟨rfl, rfl⟩
  go_wp2_with fail
  rw [HB.out]
  refine (turned_any _ p b HL.out (by omega) h2 (by omega) _).mono ?_
  rintro e w' ⟨rfl, rfl⟩
  go_wp2_with fail
  refine (repeated_any _ p 6 (turned_lt _ p b HL.out (by omega) h2) h1 h2 H3.out _).mono ?_
  rintro e w' ⟨rfl, rfl⟩
  go_wp2
  go_ret
  exact ⟨rfl, rfl⟩

end Go.Proofs.Ytnohdfdjhhmmdaa
