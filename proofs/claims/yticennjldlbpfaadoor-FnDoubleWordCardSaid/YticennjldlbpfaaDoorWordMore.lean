/- The walks of the laws FnWordInverted and FnDoubleWord, under what the tables of TrailingZeros32 and TrailingZeros64 hold. -/
import Derived.Test.YticennjldlbpfaaDoorWordLaws
import Derived.Test.YticennjldlbpfaaDoorDecFacts
namespace Go.Proofs.YticennjldlbpfaaDoor
open Go.RowKit
set_option linter.unusedVariables false

section
variable (u n a b c d : Nat) (s : Bool) (hnot : bits .xor .u32 IntKind.u32.max (u : Int) = (n : Int)) (HU : Hid (u < 4294967296)) (HN : Hid (n < 4294967296))
    (HA : Hid (decA u = a)) (HB : Hid (decB u = b)) (HC : Hid (decA n = c)) (HD : Hid (decB n = d)) (HS : Hid (Pl.rotB 32 n = s)) (w : World) (HT : Hid (Tab32 w))
include hnot HU HN HA HB HC HD HS HT

theorem fnWordInverted_no (HR : Hid (Pl.rotB 32 u = false)) : Calls Tryd.prog 4 #[.int .u32 u] w fun e w' => e = .returned (.bool true) ∧ Grown w w' := by
  have hsg := u32_unsigned
  go_enter Tryd.func4, Tryd.ntmps4
  go_wp2_with fail
  refine (idec32_any _ u a b _ rfl HU HA HB HR _ HT).mono ?_
  rintro e w' ⟨rfl, rfl⟩
  go_wp2_with fail
  refine (idec32_any _ n c d _ rfl HN HC HD HS _ HT).mono ?_
  rintro e w' ⟨rfl, rfl⟩
  go_wp2_with fail
  refine (idec32_one _ HT).mono ?_
  rintro e w' ⟨rfl, rfl⟩
  go_wp2
  go_ret
  exact ⟨rfl, Grown.refl _⟩
theorem fnWordInverted_max (HR : Hid (Pl.rotB 32 u = true)) (e1 : ((u : Int) == 4294967295) = true) : Calls Tryd.prog 4 #[.int .u32 u] w fun e w' => e = .returned (.bool true) ∧ Grown w w' := by
  have hsg := u32_unsigned
  go_enter Tryd.func4, Tryd.ntmps4
  go_wp2_with fail
  refine (idec32_any _ u a b _ rfl HU HA HB HR _ HT).mono ?_
  rintro e w' ⟨rfl, rfl⟩
  go_wp2_with fail
  refine (idec32_any _ n c d _ rfl HN HC HD HS _ HT).mono ?_
  rintro e w' ⟨rfl, rfl⟩
  go_wp2_with fail
  refine (idec32_one _ HT).mono ?_
  rintro e w' ⟨rfl, rfl⟩
  go_wp2
  go_ret
  exact ⟨rfl, Grown.refl _⟩
end
theorem fnWordInverted_yes (u n a b c d : Nat) (hnot : bits .xor .u32 IntKind.u32.max (u : Int) = (n : Int)) (HU : Hid (u < 4294967296)) (HN : Hid (n < 4294967296))
    (HA : Hid (decA u = a)) (HB : Hid (decB u = b)) (HC : Hid (decA n = c)) (HD : Hid (decB n = d)) (HS : Hid (Pl.rotB 32 n = true)) (w : World) (HT : Hid (Tab32 w))
    (HR : Hid (Pl.rotB 32 u = true)) (e1 : ((u : Int) == 4294967295) = false) (ha : a < 32) (hb : b < 32) (gc : ((b : Int) + 1) % 32 = c) (gd : ((a : Int) + 31) % 32 = d) :
    Calls Tryd.prog 4 #[.int .u32 u] w fun e w' => e = .returned (.bool true) ∧ Grown w w' := by
  have hsg := u32_unsigned
  go_enter Tryd.func4, Tryd.ntmps4
  go_wp2_with fail
  refine (idec32_any _ u a b _ rfl HU HA HB HR _ HT).mono ?_
  rintro e w' ⟨rfl, rfl⟩
  go_wp2_with fail
  refine (idec32_any _ n c d _ rfl HN HC HD HS _ HT).mono ?_
  rintro e w' ⟨rfl, rfl⟩
  go_wp2_with fail
  refine (idec32_one _ HT).mono ?_
  rintro e w' ⟨rfl, rfl⟩
  go_wp2
  go_ret
  exact ⟨rfl, Grown.refl _⟩
theorem fnWordInverted_walk (a0 : Int) (w0 : (Lit.int .u32 a0).wf = true) (w : World) (hT : Tab32 w) :
    Calls Tryd.prog 4 #[.int .u32 a0] w fun e w' => e = .returned (.bool true) ∧ Grown w w' := by
  obtain ⟨b0, b1⟩ := bounds_u32 w0
  obtain ⟨u, rfl⟩ := Int.eq_ofNat_of_zero_le b0
  have hu : u < 4294967296 := by omega
  have hn : 4294967295 - u < 4294967296 := by omega
  have hnot := not_max32 u hu
  cases hr : Pl.rotB 32 u
  · exact fnWordInverted_no u _ _ _ _ _ _ hnot (Lib.hid hu) (Lib.hid hn) (Lib.hid rfl) (Lib.hid rfl) (Lib.hid rfl) (Lib.hid rfl) (Lib.hid rfl) w (Lib.hid hT) (Lib.hid hr)
  · by_cases hm : u = 4294967295
    · exact fnWordInverted_max u _ _ _ _ _ _ hnot (Lib.hid hu) (Lib.hid hn) (Lib.hid rfl) (Lib.hid rfl) (Lib.hid rfl) (Lib.hid rfl) (Lib.hid rfl) w (Lib.hid hT) (Lib.hid hr) (by simp only [beq_iff_eq]; omega)
    · obtain ⟨f, l, hf, hl, rfl⟩ := (Pl.rot32_iff u hu).1 hr
      have F := word_facts f l hf hl
      obtain ⟨_, _, g3, g4, g5⟩ := F.k hm
      have ha := F.a
      have hb := F.b
      exact fnWordInverted_yes _ _ _ _ _ _ hnot (Lib.hid hu) (Lib.hid hn) (Lib.hid rfl) (Lib.hid rfl) (Lib.hid g4) (Lib.hid g5) (Lib.hid g3) w (Lib.hid hT) (Lib.hid hr) (by simp only [beq_eq_false_iff_ne, ne_eq]; omega) ha hb (by omega) (by omega)

/-- The same number as one of 32 bits and as one of 64 bits: the finite part. -/
def dwOk (f l : Nat) : Bool :=
  let u := Pl.mask 32 f l
  decide (0 < u) && ((u &&& Pl.up 64 u == 0) == decide (decA u ≤ decB u)) && (decide (decB u < decA u) || (decide (64 - Lib.bitLen u = decA u + 32) && decide (Lib.bitLen u ≤ 64) && decide (Lib.ctz 64 u < 64) && decide (63 - Lib.ctz 64 u = decB u + 32)))
theorem chkDw : Pl.allPair 32 dwOk = true := by decide +kernel

theorem run_small (u : Nat) (hu : u < 4294967296) (h : Pl.runB 64 u = true) : Pl.rotB 32 u = true := by
  obtain ⟨n, b, h1, h2, e⟩ := (Pl.runB_iff 64 u).1 h
  have hnb : n + b ≤ 32 := by
    have g1 : 2 ^ (n - 1) ≤ 2 ^ n - 1 := by
      have : 2 ^ n = 2 * 2 ^ (n - 1) := by rw [← Nat.pow_succ']; congr 1; omega
      have : 0 < 2 ^ (n - 1) := Nat.pow_pos (by omega)
      omega
    have g2 : 2 ^ (n - 1) * 2 ^ b ≤ u := by rw [e]; exact Nat.mul_le_mul_right _ g1
    rw [← Nat.pow_add] at g2
    have g3 : 2 ^ (n - 1 + b) < 2 ^ 32 := Nat.lt_of_le_of_lt g2 hu
    have := (Nat.pow_lt_pow_iff_right (a := 2) (by omega)).1 g3
    omega
  have hr : Pl.runB 32 u = true := (Pl.runB_iff 32 u).2 ⟨n, b, h1, hnb, e⟩
  have h0 : u ≠ 0 := by
    have g1 : 0 < 2 ^ n - 1 := by
      have : 2 ^ 1 ≤ 2 ^ n := Nat.pow_le_pow_right (by omega) h1
      omega
    have := Nat.mul_pos g1 (Nat.pow_pos (n := b) (show 0 < 2 by omega))
    omega
  rw [Pl.rot_ring 32 u (by decide) hu]
  unfold Pl.ringS
  rw [hr]
  simp [h0]

theorem fnDoubleWord_main (u a b c d : Nat) (r t : Bool) (hr0 : (r = true ∧ (decide (a ≤ b) = true ∧ t = true ∧ c = a + 32 ∧ d = b + 32 ∨ decide (a ≤ b) = false ∧ t = false)) ∨ (r = false ∧ t = false)) (ha : a ≤ 32) (hb : b < 32) (HU : Hid (u < 4294967296)) (HU2 : Hid (u < 18446744073709551616)) (HV : Hid (IntKind.u64.wrap (u : Int) = (u : Int)))
    (HA : Hid (decA u = a)) (HB : Hid (decB u = b)) (HR : Hid (Pl.rotB 32 u = r)) (HC : Hid (64 - (Lib.bitLen u : Int) = c)) (HD : Hid (decEnd (Lib.ctz 64 u) = d)) (HS : Hid (Pl.runB 64 u = t)) (w : World) (HT : Hid (Tab32 w)) (HT2 : Hid (Tab64 w)) :
    Calls Tryd.prog 9 #[.int .u32 u] w fun e w' => e = .returned (.bool true) ∧ Grown w w' := by
  have hu := HU.out
  rcases hr0 with ⟨rfl, ⟨h1, rfl, rfl, rfl⟩ | ⟨h1, rfl⟩⟩ | ⟨rfl, rfl⟩
  all_goals
    go_enter Tryd.func9, Tryd.ntmps9
    go_wp2_with fail
    refine (idec32_any _ u a b _ rfl HU HA HB HR _ HT).mono ?_
    rintro e w' ⟨rfl, rfl⟩
    go_wp2_with fail
    refine (idec64_any _ u _ _ _ HV HU2 HC HD HS _ HT2).mono ?_
    rintro e w' ⟨rfl, rfl⟩
    go_wp2_with fail
    refine (idec64_one _ HT2).mono ?_
    rintro e w' ⟨rfl, rfl⟩
    go_wp2
    go_ret
    exact ⟨rfl, Grown.refl _⟩

theorem decA_le (u : Nat) : decA u ≤ 32 := by unfold decA; split <;> omega
theorem decB_lt (u : Nat) : decB u < 32 := by unfold decB; split <;> omega

theorem fnDoubleWord_walk (a0 : Int) (w0 : (Lit.int .u32 a0).wf = true) (w : World) (hT : Tab32 w) (hT2 : Tab64 w) :
    Calls Tryd.prog 9 #[.int .u32 a0] w fun e w' => e = .returned (.bool true) ∧ Grown w w' := by
  obtain ⟨b0, b1⟩ := bounds_u32 w0
  obtain ⟨u, rfl⟩ := Int.eq_ofNat_of_zero_le b0
  have hu : u < 4294967296 := by omega
  have hu2 : u < 18446744073709551616 := by omega
  have hv : IntKind.u64.wrap (u : Int) = u := by rw [IntKind.wrap_u64]; omega
  have l1 : Lib.bitLen u ≤ 64 := bitLenAux_le 64 u
  obtain ⟨k, hk, _⟩ := decEnd_nat _ (ctz_le u hu2)
  have hc : 64 - (Lib.bitLen u : Int) = (64 - Lib.bitLen u : Nat) := by omega
  refine fnDoubleWord_main u _ _ (64 - Lib.bitLen u) k _ _ ?_ (decA_le u) (decB_lt u) (Lib.hid hu) (Lib.hid hu2) (Lib.hid hv) (Lib.hid rfl) (Lib.hid rfl) (Lib.hid rfl) (Lib.hid hc) (Lib.hid hk) (Lib.hid rfl) w (Lib.hid hT) (Lib.hid hT2)
  cases hr : Pl.rotB 32 u
  · right
    refine ⟨rfl, ?_⟩
    cases ht : Pl.runB 64 u
    · rfl
    · rw [run_small u hu ht] at hr; cases hr
  · left
    refine ⟨rfl, ?_⟩
    obtain ⟨f, l, hf, hl, rfl⟩ := (Pl.rot32_iff u hu).1 hr
    have h := Pl.allPair_at chkDw hf hl
    simp only [dwOk, Bool.and_eq_true, Bool.or_eq_true, decide_eq_true_eq, beq_iff_eq] at h
    obtain ⟨⟨h0, h1⟩, h2⟩ := h
    rw [Pl.and_up_iff 64 _ h0 hu2] at h1
    rw [h1]
    by_cases hle : decA (Pl.mask 32 f l) ≤ decB (Pl.mask 32 f l)
    · left
      obtain ⟨⟨⟨g1, g2⟩, g3⟩, g4⟩ := h2.resolve_left (by omega)
      rw [decEnd_lt _ g3] at hk
      exact ⟨by simpa using hle, by simpa using hle, by omega, by omega⟩
    · right
      exact ⟨by simpa using hle, by simpa using hle⟩
end Go.Proofs.YticennjldlbpfaaDoor
