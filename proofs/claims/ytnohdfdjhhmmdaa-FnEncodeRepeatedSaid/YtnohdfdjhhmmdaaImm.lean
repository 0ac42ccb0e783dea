/- The contract of the reference's Immediate, and the walks of the laws FnEncodeRead and FnEncodeRepeated. -/
import Derived.Test.YtnohdfdjhhmmdaaEncLaws
namespace Go.Proofs.Ytnohdfdjhhmmdaa
open Go.RowKit

/-- What Arm's architecture reads: the period, the number of ones and the places, if there is a mask. -/
def immR (n0 r0 s0 : Nat) : Option (Nat × Nat × Nat) :=
  if 64 * n0 + (63 - s0) < 2 then none
  else if s0 % 2 ^ (64 * n0 + (63 - s0)).log2 = 2 ^ (64 * n0 + (63 - s0)).log2 - 1 then none
  else some (2 ^ (64 * n0 + (63 - s0)).log2, s0 % 2 ^ (64 * n0 + (63 - s0)).log2 + 1, r0 % 2 ^ (64 * n0 + (63 - s0)).log2)
def immE : Option (Nat × Nat × Nat) → Ending
  | none => .returned (.tuple #[.int .u64 0, .bool false])
  | some (p, n, b) => .returned (.tuple #[.int .u64 (Pl.made p n b : Nat), .bool true])

def Bits7 (both L : Nat) : Prop := both < 2 ^ (L + 1)

theorem ofInt_i64 (a : Nat) (ha : a < 9223372036854775808) : (BitVec.ofInt 64 (a : Int)).toNat = a := by
  rw [BitVec.ofInt_natCast, BitVec.toNat_ofNat]; exact Nat.mod_eq_of_lt (by omega)
theorem i64_and_nat (a b : Nat) (ha : a < 9223372036854775808) (hb : b < 9223372036854775808) : bits .and .i64 (a : Int) (b : Int) = ((a &&& b : Nat) : Int) := by
  have hx : a &&& b < 2 ^ 63 := Nat.and_lt_two_pow _ (by omega)
  show IntKind.i64.wrap ((BitVec.ofInt 64 (a : Int) &&& BitVec.ofInt 64 (b : Int)).toNat : Int) = _
  rw [BitVec.toNat_and, ofInt_i64 a ha, ofInt_i64 b hb, IntKind.wrap_i64]
  omega
theorem i64_or_nat (a b : Nat) (ha : a < 9223372036854775808) (hb : b < 9223372036854775808) : bits .or .i64 (a : Int) (b : Int) = ((a ||| b : Nat) : Int) := by
  have hx : a ||| b < 2 ^ 63 := Nat.or_lt_two_pow (by omega) (by omega)
  show IntKind.i64.wrap ((BitVec.ofInt 64 (a : Int) ||| BitVec.ofInt 64 (b : Int)).toNat : Int) = _
  rw [BitVec.toNat_or, ofInt_i64 a ha, ofInt_i64 b hb, IntKind.wrap_i64]
  omega

theorem both_or (n0 s0 : Nat) (hn : n0 ≤ 1) (hs : s0 ≤ 63) : bits .or .i64 ((n0 : Int) * 64) (63 - (s0 : Int)) = ((64 * n0 + (63 - s0) : Nat) : Int) := by
  have e1 : (n0 : Int) * 64 = ((n0 * 64 : Nat) : Int) := by omega
  have e2 : 63 - (s0 : Int) = ((63 - s0 : Nat) : Int) := by omega
  have e3 : n0 * 64 ||| (63 - s0) = 64 * n0 + (63 - s0) := by
    have h := Nat.shiftLeft_add_eq_or_of_lt (i := 6) (b := 63 - s0) (by omega) n0
    rw [Nat.shiftLeft_eq] at h
    simp only [Nat.reducePow] at h
    omega
  rw [e1, e2, i64_or_nat _ _ (by omega) (by omega), e3]
theorem bit_at (both L : Nat) (hb : both < 128) : bits .and .i64 ((both : Int) / 2 ^ L) 1 = ((both / 2 ^ L % 2 : Nat) : Int) := by
  have e : (both : Int) / 2 ^ L = ((both / 2 ^ L : Nat) : Int) := by rw [two_pow_cast]; rfl
  have h := Nat.div_le_self both (2 ^ L)
  have := i64_and_nat (both / 2 ^ L) 1 (by omega) (by decide)
  rw [nat_mask1] at this
  rw [e]
  exact this
theorem mask_at (s L : Nat) (hs : s ≤ 63) (hL : L ≤ 6) (p : Nat) (hp : p = 2 ^ L) : bits .and .i64 (s : Int) ((p : Int) - 1) = ((s % p : Nat) : Int) := by
  have hp1 : 0 < p := by rw [hp]; exact Nat.pow_pos (by omega)
  have hp2 : p ≤ 64 := by rw [hp]; exact Nat.pow_le_pow_right (n := 2) (by omega) hL
  have e : (p : Int) - 1 = ((p - 1 : Nat) : Int) := by omega
  have := i64_and_nat s (p - 1) (by omega) (by omega)
  rw [e, this, hp, Nat.and_two_pow_sub_one_eq_mod]

theorem log_is (both L : Nat) (h1 : both / 2 ^ L % 2 = 1) (hB : Bits7 both L) : both.log2 = L ∧ 2 ^ L ≤ both := by
  unfold Bits7 at hB
  have hp : 0 < 2 ^ L := Nat.pow_pos (by omega)
  have h2 : 1 ≤ both / 2 ^ L := by
    rcases Nat.eq_zero_or_pos (both / 2 ^ L) with h | h
    · rw [h] at h1; simp at h1
    · exact h
  have h3 : 2 ^ L ≤ both := by
    have := (Nat.le_div_iff_mul_le hp).1 h2
    omega
  exact ⟨(Nat.log2_eq_iff (by omega)).2 ⟨h3, hB⟩, h3⟩
theorem bits_down (both L : Nat) (hL : 0 < L) (h1 : both / 2 ^ L % 2 = 0) (hB : Bits7 both L) : Bits7 both (L - 1) := by
  unfold Bits7 at hB ⊢
  rw [Nat.sub_add_cancel hL]
  have hp : 0 < 2 ^ L := Nat.pow_pos (by omega)
  have h2 : both / 2 ^ L < 2 := Nat.div_lt_of_lt_mul (by rw [Nat.pow_succ] at hB; exact hB)
  have h3 : both / 2 ^ L = 0 := by
    generalize both / 2 ^ L = q at h1 h2
    omega
  rcases Nat.lt_or_ge both (2 ^ L) with h | h
  · exact h
  · have := (Nat.le_div_iff_mul_le hp (x := 1) (y := both)).2 (by omega)
    omega
theorem two_le (both L : Nat) (hL0 : 0 < L) (hle : 2 ^ L ≤ both) : ¬ both < 2 := by
  have h : 2 ^ 1 ≤ 2 ^ L := Nat.pow_le_pow_right (by omega) hL0
  rw [Nat.pow_one] at h
  exact Nat.not_lt.2 (Nat.le_trans h hle)
theorem per_pow (L : Nat) (h1 : 1 ≤ L) (h2 : L ≤ 6) : 2 ^ L ∈ Pl.periods := by
  have : L = 1 ∨ L = 2 ∨ L = 3 ∨ L = 4 ∨ L = 5 ∨ L = 6 := by omega
  rcases this with rfl | rfl | rfl | rfl | rfl | rfl <;> decide

theorem bit_facts (both L : Nat) (hb : both < 128) (hL0 : 0 < L) (hB : Bits7 both L) :
    ∃ q : Nat, bits .and .i64 ((both : Int) / 2 ^ L) 1 = (q : Int) ∧ q < 2 ∧ (q = 0 → Hid (Bits7 both (L - 1))) ∧
      (q ≠ 0 → Hid (¬ both < 2 ∧ 2 ^ both.log2 = 2 ^ L)) := by
  refine ⟨both / 2 ^ L % 2, bit_at both L hb, Nat.mod_lt _ (by omega), fun h => bits_down both L hL0 h hB, fun h => ?_⟩
  have h1 : both / 2 ^ L % 2 = 1 := by
    have := Nat.mod_lt (both / 2 ^ L) (show 0 < 2 by omega)
    generalize both / 2 ^ L % 2 = q at h this
    omega
  obtain ⟨hlg, hle⟩ := log_is both L h1 hB
  exact ⟨two_le both L hL0 hle, by rw [hlg]⟩

theorem exit_lit (n0 r0 s0 both L p : Nat) (c : Int) (hpL : p = 2 ^ L) (hc : c = (p : Int) - 1) (hr : r0 ≤ 63) (hs : s0 ≤ 63) (hL : L ≤ 6)
    (HI : Hid (immR n0 r0 s0 = (if both < 2 then none else if s0 % 2 ^ both.log2 = 2 ^ both.log2 - 1 then none else some (2 ^ both.log2, s0 % 2 ^ both.log2 + 1, r0 % 2 ^ both.log2))))
    (hg : Hid (¬ both < 2 ∧ 2 ^ both.log2 = 2 ^ L)) :
    ∃ sq rq : Nat, bits .and .i64 (s0 : Int) c = (sq : Int) ∧ bits .and .i64 (r0 : Int) c = (rq : Int) ∧ sq < p ∧ rq < p ∧
      Hid (immR n0 r0 s0 = (if sq = p - 1 then none else some (p, sq + 1, rq))) := by
  have h0 : 0 < p := by rw [hpL]; exact Nat.pow_pos (by omega)
  refine ⟨s0 % p, r0 % p, by rw [hc]; exact mask_at s0 L hs hL p hpL, by rw [hc]; exact mask_at r0 L hr hL p hpL, Nat.mod_lt _ h0, Nat.mod_lt _ h0, ?_⟩
  have e := HI.out
  rw [if_neg hg.out.1, hg.out.2, ← hpL] at e
  exact e

theorem immE_none : immE none = .returned (.tuple #[.int .u64 0, .bool false]) := by unfold immE; rfl
theorem immE_some (p n b : Nat) : immE (some (p, n, b)) = .returned (.tuple #[.int .u64 (Pl.made p n b : Nat), .bool true]) := by simp only [immE]

set_option maxHeartbeats 1000000 in
theorem imm_any (c : Int) (n0 r0 s0 : Nat) (hn : n0 ≤ 1) (hr : r0 ≤ 63) (hs : s0 ≤ 63) (e1 : bits .and .u32 (c / 4194304) 1 = (n0 : Int)) (e2 : bits .and .u32 (c / 65536) 63 = (r0 : Int)) (e3 : bits .and .u32 (c / 1024) 63 = (s0 : Int)) (w : World) :
    Calls Try.prog 20 #[.int .u32 c] w fun e w' => e = immE (immR n0 r0 s0) ∧ w = w' := by
  obtain ⟨both, hbo⟩ : ∃ both, both = 64 * n0 + (63 - s0) := ⟨_, rfl⟩
  have hb : both < 128 := by omega
  have e4 : bits .or .i64 ((n0 : Int) * 64) (63 - (s0 : Int)) = (both : Int) := by rw [hbo]; exact both_or n0 s0 hn hs
  have HI := Lib.hid (show immR n0 r0 s0 = (if both < 2 then none else if s0 % 2 ^ both.log2 = 2 ^ both.log2 - 1 then none else some (2 ^ both.log2, s0 % 2 ^ both.log2 + 1, r0 % 2 ^ both.log2)) by unfold immR; rw [hbo])
  clear hbo
  go_enter Try.func20, Try.ntmps20
  go_wp2
  go_loop [8] (fun l => ∃ L : Nat, L ≤ 6 ∧ l = .int .i64 L ∧ Bits7 both L) (fun l => (intOf l).toNat)
  case atStart => exact ⟨6, by omega, rfl, by unfold Bits7; omega⟩
  case round =>
    obtain ⟨L, hL, rfl, hB⟩ := hrel
    by_cases hL0 : 0 < L
    · obtain ⟨q, hbit, hq2, hdown, hup⟩ := bit_facts both L hb hL0 hB
      clear hB
      by_cases h0 : q = 0
      · have t0 : ((q : Int) == 0) = true := by rw [h0]; rfl
        have hn := hdown h0
        clear h0 hdown hup
        go_wp2_with fail
        go_round
        case rel => exact ⟨L - 1, by omega, by go_num, hn.out⟩
        case measure => simp [intOf]; omega
      · have t0 : ((q : Int) == 0) = false := by simp only [beq_eq_false_iff_ne, ne_eq]; omega
        have hg := hup h0
        have hLc : L = 1 ∨ L = 2 ∨ L = 3 ∨ L = 4 ∨ L = 5 ∨ L = 6 := by omega
        rcases hLc with rfl | rfl | rfl | rfl | rfl | rfl
        · obtain ⟨sq, rq, m1, m2, hsl, hrl, HI3⟩ := exit_lit n0 r0 s0 both 1 2 1 (by decide) (by decide) hr hs hL HI hg
          rw [show ((2 : Int) ^ 1) = 2 by decide] at hbit
          clear h0 hdown hup HI hg
          have HPM := Lib.hid (show 2 ∈ Pl.periods by decide)
          by_cases hq : sq = 1
          · subst hq
            have HX := Lib.hid (show immE (immR n0 r0 s0) = .returned (.tuple #[.int .u64 0, .bool false]) by rw [HI3.out, if_pos rfl, immE_none])
            go_wp2_with fail
            go_ret2
            exact ⟨HX.out.symm, rfl⟩
          · have t1 : ((sq : Int) == 1) = false := by simp only [beq_eq_false_iff_ne, ne_eq]; omega
            have HX := Lib.hid (show immE (immR n0 r0 s0) = .returned (.tuple #[.int .u64 (Pl.made 2 (sq + 1) rq : Nat), .bool true]) by rw [HI3.out, if_neg hq, immE_some])
            have hs1 : sq + 1 < 2 := by omega
            clear hq
            go_wp2_with fail
            refine (made_any 2 (sq + 1) rq _ rfl HPM.out hs1 hrl _).mono ?_
            rintro e w' ⟨rfl, rfl⟩
            go_wp2_with fail
            go_ret2
            exact ⟨HX.out.symm, rfl⟩
        · obtain ⟨sq, rq, m1, m2, hsl, hrl, HI3⟩ := exit_lit n0 r0 s0 both 2 4 3 (by decide) (by decide) hr hs hL HI hg
          rw [show ((2 : Int) ^ 2) = 4 by decide] at hbit
          clear h0 hdown hup HI hg
          have HPM := Lib.hid (show 4 ∈ Pl.periods by decide)
          by_cases hq : sq = 3
          · subst hq
            have HX := Lib.hid (show immE (immR n0 r0 s0) = .returned (.tuple #[.int .u64 0, .bool false]) by rw [HI3.out, if_pos rfl, immE_none])
            go_wp2_with fail
            go_ret2
            exact ⟨HX.out.symm, rfl⟩
          · have t1 : ((sq : Int) == 3) = false := by simp only [beq_eq_false_iff_ne, ne_eq]; omega
            have HX := Lib.hid (show immE (immR n0 r0 s0) = .returned (.tuple #[.int .u64 (Pl.made 4 (sq + 1) rq : Nat), .bool true]) by rw [HI3.out, if_neg hq, immE_some])
            have hs1 : sq + 1 < 4 := by omega
            clear hq
            go_wp2_with fail
            refine (made_any 4 (sq + 1) rq _ rfl HPM.out hs1 hrl _).mono ?_
            rintro e w' ⟨rfl, rfl⟩
            go_wp2_with fail
            go_ret2
            exact ⟨HX.out.symm, rfl⟩
        · obtain ⟨sq, rq, m1, m2, hsl, hrl, HI3⟩ := exit_lit n0 r0 s0 both 3 8 7 (by decide) (by decide) hr hs hL HI hg
          rw [show ((2 : Int) ^ 3) = 8 by decide] at hbit
          clear h0 hdown hup HI hg
          have HPM := Lib.hid (show 8 ∈ Pl.periods by decide)
          by_cases hq : sq = 7
          · subst hq
            have HX := Lib.hid (show immE (immR n0 r0 s0) = .returned (.tuple #[.int .u64 0, .bool false]) by rw [HI3.out, if_pos rfl, immE_none])
            go_wp2_with fail
            go_ret2
            exact ⟨HX.out.symm, rfl⟩
          · have t1 : ((sq : Int) == 7) = false := by simp only [beq_eq_false_iff_ne, ne_eq]; omega
            have HX := Lib.hid (show immE (immR n0 r0 s0) = .returned (.tuple #[.int .u64 (Pl.made 8 (sq + 1) rq : Nat), .bool true]) by rw [HI3.out, if_neg hq, immE_some])
            have hs1 : sq + 1 < 8 := by omega
            clear hq
            go_wp2_with fail
            refine (made_any 8 (sq + 1) rq _ rfl HPM.out hs1 hrl _).mono ?_
            rintro e w' ⟨rfl, rfl⟩
            go_wp2_with fail
            go_ret2
            exact ⟨HX.out.symm, rfl⟩
        · obtain ⟨sq, rq, m1, m2, hsl, hrl, HI3⟩ := exit_lit n0 r0 s0 both 4 16 15 (by decide) (by decide) hr hs hL HI hg
          rw [show ((2 : Int) ^ 4) = 16 by decide] at hbit
          clear h0 hdown hup HI hg
          have HPM := Lib.hid (show 16 ∈ Pl.periods by decide)
          by_cases hq : sq = 15
          · subst hq
            have HX := Lib.hid (show immE (immR n0 r0 s0) = .returned (.tuple #[.int .u64 0, .bool false]) by rw [HI3.out, if_pos rfl, immE_none])
            go_wp2_with fail
            go_ret2
            exact ⟨HX.out.symm, rfl⟩
          · have t1 : ((sq : Int) == 15) = false := by simp only [beq_eq_false_iff_ne, ne_eq]; omega
            have HX := Lib.hid (show immE (immR n0 r0 s0) = .returned (.tuple #[.int .u64 (Pl.made 16 (sq + 1) rq : Nat), .bool true]) by rw [HI3.out, if_neg hq, immE_some])
            have hs1 : sq + 1 < 16 := by omega
            clear hq
            go_wp2_with fail
            refine (made_any 16 (sq + 1) rq _ rfl HPM.out hs1 hrl _).mono ?_
            rintro e w' ⟨rfl, rfl⟩
            go_wp2_with fail
            go_ret2
            exact ⟨HX.out.symm, rfl⟩
        · obtain ⟨sq, rq, m1, m2, hsl, hrl, HI3⟩ := exit_lit n0 r0 s0 both 5 32 31 (by decide) (by decide) hr hs hL HI hg
          rw [show ((2 : Int) ^ 5) = 32 by decide] at hbit
          clear h0 hdown hup HI hg
          have HPM := Lib.hid (show 32 ∈ Pl.periods by decide)
          by_cases hq : sq = 31
          · subst hq
            have HX := Lib.hid (show immE (immR n0 r0 s0) = .returned (.tuple #[.int .u64 0, .bool false]) by rw [HI3.out, if_pos rfl, immE_none])
            go_wp2_with fail
            go_ret2
            exact ⟨HX.out.symm, rfl⟩
          · have t1 : ((sq : Int) == 31) = false := by simp only [beq_eq_false_iff_ne, ne_eq]; omega
            have HX := Lib.hid (show immE (immR n0 r0 s0) = .returned (.tuple #[.int .u64 (Pl.made 32 (sq + 1) rq : Nat), .bool true]) by rw [HI3.out, if_neg hq, immE_some])
            have hs1 : sq + 1 < 32 := by omega
            clear hq
            go_wp2_with fail
            refine (made_any 32 (sq + 1) rq _ rfl HPM.out hs1 hrl _).mono ?_
            rintro e w' ⟨rfl, rfl⟩
            go_wp2_with fail
            go_ret2
            exact ⟨HX.out.symm, rfl⟩
        · obtain ⟨sq, rq, m1, m2, hsl, hrl, HI3⟩ := exit_lit n0 r0 s0 both 6 64 63 (by decide) (by decide) hr hs hL HI hg
          rw [show ((2 : Int) ^ 6) = 64 by decide] at hbit
          clear h0 hdown hup HI hg
          have HPM := Lib.hid (show 64 ∈ Pl.periods by decide)
          by_cases hq : sq = 63
          · subst hq
            have HX := Lib.hid (show immE (immR n0 r0 s0) = .returned (.tuple #[.int .u64 0, .bool false]) by rw [HI3.out, if_pos rfl, immE_none])
            go_wp2_with fail
            go_ret2
            exact ⟨HX.out.symm, rfl⟩
          · have t1 : ((sq : Int) == 63) = false := by simp only [beq_eq_false_iff_ne, ne_eq]; omega
            have HX := Lib.hid (show immE (immR n0 r0 s0) = .returned (.tuple #[.int .u64 (Pl.made 64 (sq + 1) rq : Nat), .bool true]) by rw [HI3.out, if_neg hq, immE_some])
            have hs1 : sq + 1 < 64 := by omega
            clear hq
            go_wp2_with fail
            refine (made_any 64 (sq + 1) rq _ rfl HPM.out hs1 hrl _).mono ?_
            rintro e w' ⟨rfl, rfl⟩
            go_wp2_with fail
            go_ret2
            exact ⟨HX.out.symm, rfl⟩
    · obtain rfl : L = 0 := by omega
      have hlt : both < 2 := by unfold Bits7 at hB; omega
      have HX := Lib.hid (show immE (immR n0 r0 s0) = .returned (.tuple #[.int .u64 0, .bool false]) by rw [HI.out, if_pos hlt, immE_none])
      clear hlt hB HI
      go_wp2_with fail
      go_ret2
      exact ⟨HX.out.symm, rfl⟩
end Go.Proofs.Ytnohdfdjhhmmdaa
