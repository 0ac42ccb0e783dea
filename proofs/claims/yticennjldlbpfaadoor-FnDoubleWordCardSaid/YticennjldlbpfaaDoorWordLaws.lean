/- The walks of the laws on masks of 32 bits, under what the table of TrailingZeros32 holds. -/
import Derived.Test.YticennjldlbpfaaDoorDec32
namespace Go.Proofs.YticennjldlbpfaaDoor
open Go.RowKit
set_option linter.unusedVariables false

/-- What is told of a mask from one bit to another one: the finite part. -/
def wOk (f l : Nat) : Bool :=
  let u := Pl.mask 32 f l
  let n := 4294967295 - u
  decide (decA u < 32) && decide (decB u < 32) && (Pl.mask 32 (decA u) (decB u) == u) &&
    (decide (u = 4294967295) || (decide (decA u = f) && decide (decB u = l) && Pl.rotB 32 n && decide (decA n = (decB u + 1) % 32) && decide (decB n = (decA u + 31) % 32)))
theorem chkWord : Pl.allPair 32 wOk = true := by decide +kernel

structure WordFacts (f l : Nat) : Prop where
  a : decA (Pl.mask 32 f l) < 32
  b : decB (Pl.mask 32 f l) < 32
  m : Pl.mask 32 (decA (Pl.mask 32 f l)) (decB (Pl.mask 32 f l)) = Pl.mask 32 f l
  r : Pl.rotB 32 (Pl.mask 32 f l) = true
  k : Pl.mask 32 f l ≠ 4294967295 → decA (Pl.mask 32 f l) = f ∧ decB (Pl.mask 32 f l) = l ∧ Pl.rotB 32 (4294967295 - Pl.mask 32 f l) = true ∧
    decA (4294967295 - Pl.mask 32 f l) = (decB (Pl.mask 32 f l) + 1) % 32 ∧ decB (4294967295 - Pl.mask 32 f l) = (decA (Pl.mask 32 f l) + 31) % 32
theorem word_facts (f l : Nat) (hf : f < 32) (hl : l < 32) : WordFacts f l := by
  have h := Pl.allPair_at chkWord hf hl
  simp only [wOk, Bool.and_eq_true, Bool.or_eq_true, decide_eq_true_eq, beq_iff_eq] at h
  obtain ⟨⟨⟨h1, h2⟩, h3⟩, h4⟩ := h
  refine ⟨h1, h2, h3, (Pl.rot32_iff _ (Pl.mask32_lt hf hl)).2 ⟨f, l, hf, hl, rfl⟩, fun hne => ?_⟩
  obtain ⟨⟨⟨⟨g1, g2⟩, g3⟩, g4⟩, g5⟩ := h4.resolve_left hne
  exact ⟨g1, g2, g3, g4, g5⟩

theorem one_facts : decA 1 = 31 ∧ decB 1 = 31 ∧ Pl.rotB 32 1 = true := by decide +kernel

theorem idec32_one (w : World) (hT : Hid (Tab32 w)) :
    Calls Tryd.prog 10 #[.int .u32 1] w fun e w' => e = .returned (.tuple #[.int .u32 31, .int .u32 31, .bool true]) ∧ w = w' :=
  idec32_any 1 1 31 31 true rfl (Lib.hid (by decide)) (Lib.hid one_facts.1) (Lib.hid one_facts.2.1) (Lib.hid one_facts.2.2) w hT

theorem fnWord_no (u a b : Nat) (HU : Hid (u < 4294967296)) (HA : Hid (decA u = a)) (HB : Hid (decB u = b)) (HR : Hid (Pl.rotB 32 u = false)) (w : World) (HT : Hid (Tab32 w)) :
    Calls Tryd.prog 3 #[.int .u32 u] w fun e w' => e = .returned (.bool true) ∧ Grown w w' := by
  go_enter Tryd.func3, Tryd.ntmps3
  go_wp2_with fail
  refine (idec32_any _ u a b _ rfl HU HA HB HR _ HT).mono ?_
  rintro e w' ⟨rfl, rfl⟩
  go_wp2_with fail
  refine (idec32_one _ HT).mono ?_
  rintro e w' ⟨rfl, rfl⟩
  go_wp2_with fail
  refine (ring32_any _ u rfl HU.out _).mono ?_
  rw [HR.out]
  rintro e w' ⟨rfl, rfl⟩
  go_wp2_with fail
  go_ret
  exact ⟨rfl, Grown.refl _⟩
theorem fnWord_yes (u a b : Nat) (ha : a < 32) (hb : b < 32) (HM : Hid (Pl.mask 32 a b = u)) (HU : Hid (u < 4294967296)) (HA : Hid (decA u = a)) (HB : Hid (decB u = b)) (HR : Hid (Pl.rotB 32 u = true)) (w : World) (HT : Hid (Tab32 w)) :
    Calls Tryd.prog 3 #[.int .u32 u] w fun e w' => e = .returned (.bool true) ∧ Grown w w' := by
  go_enter Tryd.func3, Tryd.ntmps3
  go_wp2_with fail
  refine (idec32_any _ u a b _ rfl HU HA HB HR _ HT).mono ?_
  rintro e w' ⟨rfl, rfl⟩
  go_wp2_with fail
  refine (idec32_one _ HT).mono ?_
  rintro e w' ⟨rfl, rfl⟩
  go_wp2_with fail
  refine (ring32_any _ u rfl HU.out _).mono ?_
  rw [HR.out]
  rintro e w' ⟨rfl, rfl⟩
  go_wp2_with fail
  refine (mask32_any a b ha hb _).mono ?_
  rw [HM.out]
  rintro e w' ⟨rfl, rfl⟩
  go_wp2
  go_ret
  exact ⟨rfl, Grown.refl _⟩
theorem fnWord_walk (a0 : Int) (w0 : (Lit.int .u32 a0).wf = true) (w : World) (hT : Tab32 w) :
    Calls Tryd.prog 3 #[.int .u32 a0] w fun e w' => e = .returned (.bool true) ∧ Grown w w' := by
  obtain ⟨b0, b1⟩ := bounds_u32 w0
  obtain ⟨u, rfl⟩ := Int.eq_ofNat_of_zero_le b0
  have hu : u < 4294967296 := by omega
  cases hr : Pl.rotB 32 u
  · exact fnWord_no u _ _ (Lib.hid hu) (Lib.hid rfl) (Lib.hid rfl) (Lib.hid hr) w (Lib.hid hT)
  · obtain ⟨f, l, hf, hl, rfl⟩ := (Pl.rot32_iff u hu).1 hr
    have F := word_facts f l hf hl
    exact fnWord_yes _ _ _ F.a F.b (Lib.hid F.m) (Lib.hid hu) (Lib.hid rfl) (Lib.hid rfl) (Lib.hid F.r) w (Lib.hid hT)

theorem fnWordMade_max (f l : Nat) (hf : f < 32) (hl : l < 32) (u : Nat) (HE : Hid (Pl.mask 32 f l = u)) (e1 : ((u : Int) == 4294967295) = true) (w : World) :
    Calls Tryd.prog 5 #[.int .i64 f, .int .i64 l] w fun e w' => e = .returned (.bool true) ∧ Grown w w' := by
  go_enter Tryd.func5, Tryd.ntmps5
  go_wp2_with fail
  refine (mask32_any f l hf hl _).mono ?_
  rw [HE.out]
  rintro e w' ⟨rfl, rfl⟩
  go_wp2_with fail
  go_ret
  exact ⟨rfl, Grown.refl _⟩
theorem fnWordMade_main (f l : Nat) (hf : f < 32) (hl : l < 32) (u : Nat) (HE : Hid (Pl.mask 32 f l = u)) (e1 : ((u : Int) == 4294967295) = false) (HU : Hid (u < 4294967296)) (HA : Hid (decA u = f)) (HB : Hid (decB u = l)) (HR : Hid (Pl.rotB 32 u = true)) (w : World) (HT : Hid (Tab32 w)) :
    Calls Tryd.prog 5 #[.int .i64 f, .int .i64 l] w fun e w' => e = .returned (.bool true) ∧ Grown w w' := by
  go_enter Tryd.func5, Tryd.ntmps5
  go_wp2_with fail
  refine (mask32_any f l hf hl _).mono ?_
  rw [HE.out]
  rintro e w' ⟨rfl, rfl⟩
  go_wp2_with fail
  refine (mask32_any f l hf hl _).mono ?_
  rw [HE.out]
  rintro e w' ⟨rfl, rfl⟩
  go_wp2_with fail
  refine (idec32_any _ u f l _ rfl HU HA HB HR _ HT).mono ?_
  rintro e w' ⟨rfl, rfl⟩
  go_wp2
  go_ret
  exact ⟨rfl, Grown.refl _⟩
theorem fnWordMade_walk (a0 : Int) (a1 : Int) (w0 : (Lit.int .i64 a0).wf = true) (w1 : (Lit.int .i64 a1).wf = true) (w : World) (hT : Tab32 w) :
    Calls Tryd.prog 5 #[.int .i64 a0, .int .i64 a1] w fun e w' => e = .returned (.bool true) ∧ Grown w w' := by
  obtain ⟨b0, b1⟩ := bounds_i64 w0
  obtain ⟨b2, b3⟩ := bounds_i64 w1
  have HT := Lib.hid hT
  clear w0 w1 hT
  by_cases c1 : a0 < 0
  · go_enter Tryd.func5, Tryd.ntmps5
    go_wp2_with fail
    go_ret
    exact ⟨rfl, Grown.refl _⟩
  by_cases c2 : 31 < a0
  · go_enter Tryd.func5, Tryd.ntmps5
    go_wp2_with fail
    go_ret
    exact ⟨rfl, Grown.refl _⟩
  by_cases c3 : a1 < 0
  · go_enter Tryd.func5, Tryd.ntmps5
    go_wp2_with fail
    go_ret
    exact ⟨rfl, Grown.refl _⟩
  by_cases c4 : 31 < a1
  · go_enter Tryd.func5, Tryd.ntmps5
    go_wp2_with fail
    go_ret
    exact ⟨rfl, Grown.refl _⟩
  obtain ⟨f, rfl⟩ := Int.eq_ofNat_of_zero_le (show 0 ≤ a0 by omega)
  obtain ⟨l, rfl⟩ := Int.eq_ofNat_of_zero_le (show 0 ≤ a1 by omega)
  have hf : f < 32 := by omega
  have hl : l < 32 := by omega
  have F := word_facts f l hf hl
  by_cases hm : Pl.mask 32 f l = 4294967295
  · exact fnWordMade_max f l hf hl _ (Lib.hid rfl) (by rw [hm]; rfl) w
  · obtain ⟨g1, g2, _⟩ := F.k hm
    exact fnWordMade_main f l hf hl _ (Lib.hid rfl) (by simp only [beq_eq_false_iff_ne, ne_eq]; omega) (Lib.hid (Pl.mask32_lt hf hl)) (Lib.hid g1) (Lib.hid g2) (Lib.hid F.r) w HT

/-- A mask of one bit, and all but it. -/
theorem chkOne : ((List.range 32).all fun k => decide (2 ^ (31 - k) < 4294967296) && Pl.rotB 32 (2 ^ (31 - k)) && decide (decA (2 ^ (31 - k)) = k) && decide (decB (2 ^ (31 - k)) = k) && Pl.rotB 32 (4294967295 - 2 ^ (31 - k)) &&
    decide (decA (4294967295 - 2 ^ (31 - k)) = (k + 1) % 32) && decide (decB (4294967295 - 2 ^ (31 - k)) = (k + 31) % 32)) = true := by decide +kernel
theorem fnWordOne_main (k u n c d : Nat) (hk : k < 32) (hp : (2 : Int) ^ (31 - k) % 4294967296 = (u : Int)) (hnot : bits .xor .u32 IntKind.u32.max (u : Int) = (n : Int)) (HU : Hid (u < 4294967296)) (HN : Hid (n < 4294967296))
    (HA : Hid (decA u = k)) (HB : Hid (decB u = k)) (HR : Hid (Pl.rotB 32 u = true)) (HC : Hid (decA n = c)) (HD : Hid (decB n = d)) (HS : Hid (Pl.rotB 32 n = true)) (gc : ((k : Int) + 1) % 32 = c) (gd : ((k : Int) + 31) % 32 = d) (w : World) (HT : Hid (Tab32 w)) :
    Calls Tryd.prog 6 #[.int .i64 k] w fun e w' => e = .returned (.bool true) ∧ Grown w w' := by
  have hsg := u32_unsigned
  have hc : c < 32 := by omega
  have hd : d < 32 := by omega
  go_enter Tryd.func6, Tryd.ntmps6
  go_wp2_with fail
  refine (idec32_any _ u k k _ rfl HU HA HB HR _ HT).mono ?_
  rintro e w' ⟨rfl, rfl⟩
  go_wp2_with fail
  refine (idec32_any _ n c d _ rfl HN HC HD HS _ HT).mono ?_
  rintro e w' ⟨rfl, rfl⟩
  go_wp2
  go_ret
  exact ⟨rfl, Grown.refl _⟩
theorem fnWordOne_walk (a0 : Int) (w0 : (Lit.int .i64 a0).wf = true) (w : World) (hT : Tab32 w) :
    Calls Tryd.prog 6 #[.int .i64 a0] w fun e w' => e = .returned (.bool true) ∧ Grown w w' := by
  obtain ⟨b0, b1⟩ := bounds_i64 w0
  have HT := Lib.hid hT
  clear w0 hT
  by_cases c1 : a0 < 0
  · go_enter Tryd.func6, Tryd.ntmps6
    go_wp2_with fail
    go_ret
    exact ⟨rfl, Grown.refl _⟩
  by_cases c2 : 31 < a0
  · go_enter Tryd.func6, Tryd.ntmps6
    go_wp2_with fail
    go_ret
    exact ⟨rfl, Grown.refl _⟩
  obtain ⟨k, rfl⟩ := Int.eq_ofNat_of_zero_le (show 0 ≤ a0 by omega)
  have hk : k < 32 := by omega
  have h := List.all_eq_true.1 chkOne k (List.mem_range.2 hk)
  simp only [Bool.and_eq_true, decide_eq_true_eq] at h
  obtain ⟨⟨⟨⟨⟨⟨h0, h1⟩, h2⟩, h3⟩, h4⟩, h5⟩, h6⟩ := h
  exact fnWordOne_main k _ _ _ _ hk (by rw [two_pow_cast, mod32_id _ h0]) (not_max32 _ h0) (Lib.hid h0) (Lib.hid (Nat.lt_of_le_of_lt (Nat.sub_le _ _) (by decide))) (Lib.hid h2) (Lib.hid h3) (Lib.hid h1) (Lib.hid h5) (Lib.hid h6) (Lib.hid h4) (by omega) (by omega) w HT

end Go.Proofs.YticennjldlbpfaaDoor
