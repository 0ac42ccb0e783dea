/- The walk of the law FnBoundsBoth, under what the table of TrailingZeros64 holds. -/
import Derived.Test.YteohmffbehbjpaaDoorBoundsLaws
import Derived.Test.YteohmffbehbjpaaDoorDec64
namespace Go.Proofs.YteohmffbehbjpaaDoor
open Go.RowKit

theorem chkDec : Pl.allPair 64 (fun f l => decide (l < f) || ((Pl.mask 64 f l &&& Pl.up 64 (Pl.mask 64 f l) == 0) && decide (0 < Pl.mask 64 f l) && decide (64 - Lib.bitLen (Pl.mask 64 f l) = f) && decide (Lib.bitLen (Pl.mask 64 f l) ≤ 64) && decide (Lib.ctz 64 (Pl.mask 64 f l) < 64) && decide (63 - Lib.ctz 64 (Pl.mask 64 f l) = l) && (decide (l = f + 63) || decide (Pl.mask 64 f l ≠ 18446744073709551615)))) = true := by decide +kernel

theorem dec_facts (f l : Nat) (hf : f < 64) (hl : l < 64) (h : f ≤ l) : Pl.runB 64 (Pl.mask 64 f l) = true ∧ 64 - (Lib.bitLen (Pl.mask 64 f l) : Int) = f ∧ decEnd (Lib.ctz 64 (Pl.mask 64 f l)) = l ∧ (l ≠ f + 63 → Pl.mask 64 f l ≠ 18446744073709551615) := by
  have hc := Pl.allPair_at chkDec hf hl
  simp only [Bool.and_eq_true, Bool.or_eq_true, decide_eq_true_eq] at hc
  rcases hc with hc | ⟨⟨⟨⟨⟨⟨h1, h0⟩, h2⟩, h3⟩, h4⟩, h5⟩, h6⟩
  · omega
  · exact ⟨by rw [← Pl.and_up_iff 64 _ h0 (Pl.mask64_lt hf hl)]; exact h1, by omega, by rw [decEnd_lt _ h4, h5], fun g => h6.resolve_left g⟩

theorem fnBoundsBoth_main (f l u : Nat) (hf : f < 64) (hl : l < 64) (hfl : f ≤ l) (hd : l < f + 63) (HE : Hid (Pl.mask 64 f l = u)) (HU : Hid (u < 18446744073709551616)) (HV : Hid (IntKind.u64.wrap (wrap64 (u : Int)) = (Pl.mask 64 f l : Nat))) (HV2 : Hid (IntKind.u64.wrap (wrap64 (u : Int)) = (u : Int))) (HN : Hid (Pl.mask 64 f l ≠ 18446744073709551615))
    (ha : Hid (64 - (Lib.bitLen u : Int) = f)) (hb : Hid (decEnd (Lib.ctz 64 u) = l)) (hr : Hid (Pl.runB 64 u = true)) (w : World) (HT : Hid (Tab64 w)) :
    Calls Tryd.prog 6 #[.int .i64 f, .int .i64 l] w fun e w' => e = .returned (.bool true) ∧ Grown w w' := by
  have e1 : ((l : Int) - (f : Int) == 63) = false := by simp only [beq_eq_false_iff_ne, ne_eq]; omega
  go_enter Tryd.func6, Tryd.ntmps6
  go_wp2_with fail
  refine (mask64_any f l hf hl _).mono ?_
  rw [HE.out]
  rintro e w' ⟨rfl, rfl⟩
  go_wp2_with fail
  refine (bounds_any _ f l hf hl HV HN _ HT).mono ?_
  rintro e w' ⟨rfl, rfl⟩
  go_wp2_with fail
  refine (idec64_any _ u f l true HV2 HU ha hb hr _ HT).mono ?_
  rintro e w' ⟨rfl, rfl⟩
  go_wp2
  go_ret
  exact ⟨rfl, Grown.refl _⟩

theorem fnBoundsBoth_walk (a0 : Int) (a1 : Int) (w0 : (Lit.int .i64 a0).wf = true) (w1 : (Lit.int .i64 a1).wf = true) (w : World) (hT : Tab64 w) :
    Calls Tryd.prog 6 #[.int .i64 a0, .int .i64 a1] w fun e w' => e = .returned (.bool true) ∧ Grown w w' := by
  obtain ⟨b0, b1⟩ := bounds_i64 w0
  obtain ⟨b2, b3⟩ := bounds_i64 w1
  have HT := Lib.hid hT
  clear w0 w1 hT
  by_cases c1 : a0 < 0
  · go_enter Tryd.func6, Tryd.ntmps6
    go_wp2_with fail
    go_ret
    exact ⟨rfl, Grown.refl _⟩
  by_cases c2 : a1 < a0
  · go_enter Tryd.func6, Tryd.ntmps6
    go_wp2_with fail
    go_ret
    exact ⟨rfl, Grown.refl _⟩
  by_cases c3 : 63 < a1
  · go_enter Tryd.func6, Tryd.ntmps6
    go_wp2_with fail
    go_ret
    exact ⟨rfl, Grown.refl _⟩
  by_cases c4 : a1 - a0 = 63
  · have e1 : (a1 - a0 == 63) = true := by simpa using c4
    have H4 := Lib.hid c4; clear c4
    go_enter Tryd.func6, Tryd.ntmps6
    go_wp2_with fail
    go_ret
    exact ⟨rfl, Grown.refl _⟩
  obtain ⟨f, rfl⟩ := Int.eq_ofNat_of_zero_le (show 0 ≤ a0 by omega)
  obtain ⟨l, rfl⟩ := Int.eq_ofNat_of_zero_le (show 0 ≤ a1 by omega)
  have hf : f < 64 := by omega
  have hl : l < 64 := by omega
  have hu := Pl.mask64_lt hf hl
  obtain ⟨h1, h2, h3, h4⟩ := dec_facts f l hf hl (by omega)
  exact fnBoundsBoth_main f l _ hf hl (by omega) (by omega) (Lib.hid rfl) (Lib.hid hu) (Lib.hid (i64_back _ hu)) (Lib.hid (i64_back _ hu)) (Lib.hid (h4 (by omega))) (Lib.hid h2) (Lib.hid h3) (Lib.hid h1) w HT
end Go.Proofs.YteohmffbehbjpaaDoor
