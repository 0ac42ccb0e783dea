/- The contract of encodePPC64RLDCMask at every mask that is not of all bits. -/
import Derived.Test.YteohmffbehbjpaaDoorTz
import Derived.Test.YteohmffbehbjpaaDoorRotWalks
namespace Go.Proofs.YteohmffbehbjpaaDoor
open Go.RowKit
set_option linter.unusedVariables false

theorem lz_nat (z : Int) (x a : Nat) (hz : z = x) (hx : x < 18446744073709551616) (ha : Lib.bitLen x = a) (w : World) :
    Calls Tryd.prog 17 #[.int .u64 z] w fun e w' => e = .returned (.int .i64 (64 - (a : Int))) ∧ w = w' := by
  subst hz
  have := Tryd.bits_LeadingZeros64 (x : Int) w (by omega) (by omega)
  rw [Int.toNat_natCast, ha] at this
  exact this.mono fun _ _ ⟨h1, h2⟩ => ⟨h1, h2.symm⟩
theorem tz_nat (z : Int) (x b : Nat) (hz : z = x) (hx : x < 18446744073709551616) (hb : Lib.ctz 64 x = b) (w : World) (hT : Hid (Tab64 w)) :
    Calls Tryd.prog 18 #[.int .u64 z] w fun e w' => e = .returned (.int .i64 (b : Nat)) ∧ w = w' := by
  have := tz64_any z x hz hx w hT.out
  rwa [hb] at this

theorem enc_swap (v : Int) (u n a b c d : Nat) (hv : IntKind.u64.wrap v = u) (hu : Hid (u < 18446744073709551616)) (hnot : bits .xor .u64 IntKind.u64.max (u : Int) = (n : Int)) (hn : Hid (n < 18446744073709551616))
    (hA : Hid (Lib.bitLen u = a)) (hB : Hid (Lib.ctz 64 u = b)) (hC : Hid (Lib.bitLen n = c)) (hD : Hid (Lib.ctz 64 n = d)) (la : a ≤ 64) (lb : b ≤ 64) (lc : c ≤ 64) (ld : d ≤ 64)
    (e1 : (64 - (a : Int) == 0) = true) (e2 : (64 - (b : Int) == 64) = true) (w : World) (hT : Hid (Tab64 w)) :
    Calls Tryd.prog 15 #[.int .i64 v] w fun e w' => e = .returned (.tuple #[.int .i64 (64 - (d : Int)), .int .i64 (64 - (c : Int) - 1)]) ∧ w = w' := by
  have hsg := u64_unsigned
  go_enter Tryd.func15, Tryd.ntmps15
  go_wp2_with fail
  refine (lz_nat _ u a rfl hu.out hA.out _).mono ?_
  rintro e w' ⟨rfl, rfl⟩
  go_wp2_with fail
  refine (tz_nat _ u b rfl hu.out hB.out _ hT).mono ?_
  rintro e w' ⟨rfl, rfl⟩
  go_wp2_with fail
  refine (lz_nat _ n c rfl hn.out hC.out _).mono ?_
  rintro e w' ⟨rfl, rfl⟩
  go_wp2_with fail
  refine (tz_nat _ n d rfl hn.out hD.out _ hT).mono ?_
  rintro e w' ⟨rfl, rfl⟩
  go_wp2_with fail
  go_ret2
  exact ⟨rfl, rfl⟩
theorem enc_keep1 (v : Int) (u n a b c d : Nat) (hv : IntKind.u64.wrap v = u) (hu : Hid (u < 18446744073709551616)) (hnot : bits .xor .u64 IntKind.u64.max (u : Int) = (n : Int)) (hn : Hid (n < 18446744073709551616))
    (hA : Hid (Lib.bitLen u = a)) (hB : Hid (Lib.ctz 64 u = b)) (hC : Hid (Lib.bitLen n = c)) (hD : Hid (Lib.ctz 64 n = d)) (la : a ≤ 64) (lb : b ≤ 64) (lc : c ≤ 64) (ld : d ≤ 64)
    (e1 : (64 - (a : Int) == 0) = false) (w : World) (hT : Hid (Tab64 w)) :
    Calls Tryd.prog 15 #[.int .i64 v] w fun e w' => e = .returned (.tuple #[.int .i64 (64 - (a : Int)), .int .i64 (64 - (b : Int) - 1)]) ∧ w = w' := by
  have hsg := u64_unsigned
  go_enter Tryd.func15, Tryd.ntmps15
  go_wp2_with fail
  refine (lz_nat _ u a rfl hu.out hA.out _).mono ?_
  rintro e w' ⟨rfl, rfl⟩
  go_wp2_with fail
  refine (tz_nat _ u b rfl hu.out hB.out _ hT).mono ?_
  rintro e w' ⟨rfl, rfl⟩
  go_wp2_with fail
  refine (lz_nat _ n c rfl hn.out hC.out _).mono ?_
  rintro e w' ⟨rfl, rfl⟩
  go_wp2_with fail
  refine (tz_nat _ n d rfl hn.out hD.out _ hT).mono ?_
  rintro e w' ⟨rfl, rfl⟩
  go_wp2_with fail
  go_ret2
  exact ⟨rfl, rfl⟩
theorem enc_keep2 (v : Int) (u n a b c d : Nat) (hv : IntKind.u64.wrap v = u) (hu : Hid (u < 18446744073709551616)) (hnot : bits .xor .u64 IntKind.u64.max (u : Int) = (n : Int)) (hn : Hid (n < 18446744073709551616))
    (hA : Hid (Lib.bitLen u = a)) (hB : Hid (Lib.ctz 64 u = b)) (hC : Hid (Lib.bitLen n = c)) (hD : Hid (Lib.ctz 64 n = d)) (la : a ≤ 64) (lb : b ≤ 64) (lc : c ≤ 64) (ld : d ≤ 64)
    (e1 : (64 - (a : Int) == 0) = true) (e2 : (64 - (b : Int) == 64) = false) (w : World) (hT : Hid (Tab64 w)) :
    Calls Tryd.prog 15 #[.int .i64 v] w fun e w' => e = .returned (.tuple #[.int .i64 (64 - (a : Int)), .int .i64 (64 - (b : Int) - 1)]) ∧ w = w' := by
  have hsg := u64_unsigned
  go_enter Tryd.func15, Tryd.ntmps15
  go_wp2_with fail
  refine (lz_nat _ u a rfl hu.out hA.out _).mono ?_
  rintro e w' ⟨rfl, rfl⟩
  go_wp2_with fail
  refine (tz_nat _ u b rfl hu.out hB.out _ hT).mono ?_
  rintro e w' ⟨rfl, rfl⟩
  go_wp2_with fail
  refine (lz_nat _ n c rfl hn.out hC.out _).mono ?_
  rintro e w' ⟨rfl, rfl⟩
  go_wp2_with fail
  refine (tz_nat _ n d rfl hn.out hD.out _ hT).mono ?_
  rintro e w' ⟨rfl, rfl⟩
  go_wp2_with fail
  go_ret2
  exact ⟨rfl, rfl⟩

def bOk (f l : Nat) : Bool :=
  let u := Pl.mask 64 f l
  let n := 18446744073709551615 - u
  decide (u = 18446744073709551615) || (decide (Lib.bitLen u ≤ 64) && decide (Lib.ctz 64 u ≤ 64) && decide (Lib.bitLen n ≤ 64) && decide (Lib.ctz 64 n ≤ 64) &&
    (if Lib.bitLen u = 64 ∧ Lib.ctz 64 u = 0 then decide (64 - Lib.ctz 64 n = f) && decide (64 - Lib.bitLen n = l + 1) && decide (Lib.ctz 64 n ≤ 64) else decide (64 - Lib.bitLen u = f) && decide (64 - Lib.ctz 64 u = l + 1)))
theorem chkBnd : Pl.allPair 64 bOk = true := by decide +kernel

theorem bnd_mask (v : Int) (f l : Nat) (hf : f < 64) (hl : l < 64) (hv : IntKind.u64.wrap v = (Pl.mask 64 f l : Nat)) (hne : Pl.mask 64 f l ≠ 18446744073709551615) (w : World) (hT : Hid (Tab64 w)) :
    Calls Tryd.prog 15 #[.int .i64 v] w fun e w' => e = .returned (.tuple #[.int .i64 f, .int .i64 l]) ∧ w = w' := by
  have hu := Pl.mask64_lt hf hl
  have h := Pl.allPair_at chkBnd hf hl
  simp only [bOk, Bool.or_eq_true, Bool.and_eq_true, decide_eq_true_eq] at h
  obtain ⟨⟨⟨⟨la, lb⟩, lc⟩, ld⟩, hc⟩ := h.resolve_left hne
  have hnot := not_max _ hu
  have hnl : 18446744073709551615 - Pl.mask 64 f l < 18446744073709551616 := Nat.lt_of_le_of_lt (Nat.sub_le _ _) (by decide)
  by_cases hs : Lib.bitLen (Pl.mask 64 f l) = 64 ∧ Lib.ctz 64 (Pl.mask 64 f l) = 0
  · rw [if_pos hs] at hc
    simp only [Bool.and_eq_true, decide_eq_true_eq] at hc
    obtain ⟨⟨h1, h2⟩, _⟩ := hc
    have := enc_swap v _ _ _ _ _ _ hv (Lib.hid hu) hnot (Lib.hid hnl) (Lib.hid rfl) (Lib.hid rfl) (Lib.hid rfl) (Lib.hid rfl) la lb lc ld (by rw [hs.1]; rfl) (by rw [hs.2]; rfl) w hT
    refine this.mono fun e w' ⟨he, hw⟩ => ⟨he.trans ?_, hw⟩
    have g1 : 64 - (Lib.ctz 64 (18446744073709551615 - Pl.mask 64 f l) : Int) = f := by omega
    have g2 : 64 - (Lib.bitLen (18446744073709551615 - Pl.mask 64 f l) : Int) - 1 = l := by omega
    rw [g1, g2]
  · rw [if_neg hs] at hc
    simp only [Bool.and_eq_true, decide_eq_true_eq] at hc
    obtain ⟨h1, h2⟩ := hc
    have g1 : 64 - (Lib.bitLen (Pl.mask 64 f l) : Int) = f := by omega
    have g2 : 64 - (Lib.ctz 64 (Pl.mask 64 f l) : Int) - 1 = l := by omega
    by_cases e1 : 64 - (Lib.bitLen (Pl.mask 64 f l) : Int) = 0
    · have e2 : ¬ 64 - (Lib.ctz 64 (Pl.mask 64 f l) : Int) = 64 := fun e2 => hs ⟨by omega, by omega⟩
      have := enc_keep2 v _ _ _ _ _ _ hv (Lib.hid hu) hnot (Lib.hid hnl) (Lib.hid rfl) (Lib.hid rfl) (Lib.hid rfl) (Lib.hid rfl) la lb lc ld (by simpa using e1) (by simpa using e2) w hT
      refine this.mono fun e w' ⟨he, hw⟩ => ⟨he.trans ?_, hw⟩
      rw [g1, g2]
    · have := enc_keep1 v _ _ _ _ _ _ hv (Lib.hid hu) hnot (Lib.hid hnl) (Lib.hid rfl) (Lib.hid rfl) (Lib.hid rfl) (Lib.hid rfl) la lb lc ld (by simpa using e1) w hT
      refine this.mono fun e w' ⟨he, hw⟩ => ⟨he.trans ?_, hw⟩
      rw [g1, g2]

theorem bounds_any (v : Int) (f l : Nat) (hf : f < 64) (hl : l < 64) (hv : Hid (IntKind.u64.wrap v = (Pl.mask 64 f l : Nat))) (hne : Hid (Pl.mask 64 f l ≠ 18446744073709551615)) (w : World) (hT : Hid (Tab64 w)) :
    Calls Tryd.prog 8 #[.int .i64 v] w fun e w' => e = .returned (.tuple #[.int .i64 f, .int .i64 l]) ∧ w = w' := by
  go_enter Tryd.func8, Tryd.ntmps8
  go_wp2_with (first | (go_at_call 15; (with_reducible refine (bnd_mask _ f l hf hl hv.out hne.out _ hT).mono ?_); rintro e w' ⟨rfl, rfl⟩) | go_in)
  go_ret2
  exact ⟨rfl, rfl⟩
end Go.Proofs.YteohmffbehbjpaaDoor
