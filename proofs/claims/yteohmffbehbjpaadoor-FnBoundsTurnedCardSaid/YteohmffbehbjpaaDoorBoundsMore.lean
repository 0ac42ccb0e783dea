/- The walk of the law FnBoundsTurned, under what the table of TrailingZeros64 holds. -/
import Derived.Test.YteohmffbehbjpaaDoorBoundsLaws
namespace Go.Proofs.YteohmffbehbjpaaDoor
open Go.RowKit

def rotl (u : Nat) : Nat := (u * 2) % 18446744073709551616 ||| u / 9223372036854775808
theorem chkRotl : Pl.allPair 64 (fun f l => rotl (Pl.mask 64 f l) == Pl.mask 64 ((f + 63) % 64) ((l + 63) % 64) && (decide (Pl.mask 64 f l = 18446744073709551615) || decide (Pl.mask 64 ((f + 63) % 64) ((l + 63) % 64) ≠ 18446744073709551615))) = true := by decide +kernel
theorem rotl_form (u : Nat) (hu : u < 18446744073709551616) : bits .or .u64 (IntKind.u64.wrap ((u : Int) * 2)) ((u : Int) / 9223372036854775808) = ((rotl u : Nat) : Int) := by
  have e1 : (u : Int) / (9223372036854775808 : Int) = ((u / 9223372036854775808 : Nat) : Int) := by omega
  have e2 : IntKind.u64.wrap ((u : Int) * 2) = (((u * 2) % 18446744073709551616 : Nat) : Int) := by
    rw [show ((u : Int) * 2) = ((u * 2 : Nat) : Int) from rfl, u64_nat]
  rw [e1, e2, u64_or_nat _ _ (Nat.mod_lt _ (by decide)) (by omega)]
  rfl

theorem fnBoundsTurned_main (f l f2 l2 : Nat) (hf : f < 64) (hl : l < 64) (hf2 : f2 < 64) (hl2 : l2 < 64) (u u2 : Nat) (HE : Hid (Pl.mask 64 f l = u)) (_HE2 : Hid (Pl.mask 64 f2 l2 = u2)) (hrot : bits .or .u64 (IntKind.u64.wrap ((u : Int) * 2)) ((u : Int) / 9223372036854775808) = (u2 : Int))
    (e1 : ((u : Int) == 18446744073709551615) = false) (HN : Hid (Pl.mask 64 f l ≠ 18446744073709551615)) (HN2 : Hid (Pl.mask 64 f2 l2 ≠ 18446744073709551615)) (HV : Hid (IntKind.u64.wrap (wrap64 (u : Int)) = (Pl.mask 64 f l : Nat))) (HV2 : Hid (IntKind.u64.wrap (wrap64 (u2 : Int)) = (Pl.mask 64 f2 l2 : Nat)))
    (g1 : ((f : Int) + 63) % 64 = (f2 : Int)) (g2 : ((l : Int) + 63) % 64 = (l2 : Int)) (w : World) (HT : Hid (Tab64 w)) :
    Calls Tryd.prog 5 #[.int .i64 f, .int .i64 l] w fun e w' => e = .returned (.bool true) ∧ Grown w w' := by
  go_enter Tryd.func5, Tryd.ntmps5
  go_wp2_with fail
  refine (mask64_any f l hf hl _).mono ?_
  rw [HE.out]
  rintro e w' ⟨rfl, rfl⟩
  go_wp2_with fail
  refine (mask64_any f l hf hl _).mono ?_
  rw [HE.out]
  rintro e w' ⟨rfl, rfl⟩
  go_wp2_with fail
  refine (bounds_any _ f l hf hl HV HN _ HT).mono ?_
  rintro e w' ⟨rfl, rfl⟩
  go_wp2_with fail
  refine (bounds_any _ f2 l2 hf2 hl2 HV2 HN2 _ HT).mono ?_
  rintro e w' ⟨rfl, rfl⟩
  go_wp2
  go_ret
  exact ⟨rfl, Grown.refl _⟩
theorem fnBoundsTurned_all (f l u : Nat) (hf : f < 64) (hl : l < 64) (HE : Hid (Pl.mask 64 f l = u)) (e1 : ((u : Int) == 18446744073709551615) = true) (w : World) :
    Calls Tryd.prog 5 #[.int .i64 f, .int .i64 l] w fun e w' => e = .returned (.bool true) ∧ Grown w w' := by
  go_enter Tryd.func5, Tryd.ntmps5
  go_wp2_with fail
  refine (mask64_any f l hf hl _).mono ?_
  rw [HE.out]
  rintro e w' ⟨rfl, rfl⟩
  go_wp2_with fail
  go_ret
  exact ⟨rfl, Grown.refl _⟩

theorem fnBoundsTurned_walk (a0 : Int) (a1 : Int) (w0 : (Lit.int .i64 a0).wf = true) (w1 : (Lit.int .i64 a1).wf = true) (w : World) (hT : Tab64 w) :
    Calls Tryd.prog 5 #[.int .i64 a0, .int .i64 a1] w fun e w' => e = .returned (.bool true) ∧ Grown w w' := by
  obtain ⟨b0, b1⟩ := bounds_i64 w0
  obtain ⟨b2, b3⟩ := bounds_i64 w1
  have HT := Lib.hid hT
  clear w0 w1 hT
  by_cases c1 : a0 < 0
  · go_enter Tryd.func5, Tryd.ntmps5
    go_wp2_with fail
    go_ret
    exact ⟨rfl, Grown.refl _⟩
  by_cases c2 : 63 < a0
  · go_enter Tryd.func5, Tryd.ntmps5
    go_wp2_with fail
    go_ret
    exact ⟨rfl, Grown.refl _⟩
  by_cases c3 : a1 < 0
  · go_enter Tryd.func5, Tryd.ntmps5
    go_wp2_with fail
    go_ret
    exact ⟨rfl, Grown.refl _⟩
  by_cases c4 : 63 < a1
  · go_enter Tryd.func5, Tryd.ntmps5
    go_wp2_with fail
    go_ret
    exact ⟨rfl, Grown.refl _⟩
  obtain ⟨f, rfl⟩ := Int.eq_ofNat_of_zero_le (show 0 ≤ a0 by omega)
  obtain ⟨l, rfl⟩ := Int.eq_ofNat_of_zero_le (show 0 ≤ a1 by omega)
  have hf : f < 64 := by omega
  have hl : l < 64 := by omega
  have hu := Pl.mask64_lt hf hl
  by_cases h : Pl.mask 64 f l = 18446744073709551615
  · exact fnBoundsTurned_all f l _ hf hl (Lib.hid rfl) (by rw [h]; rfl) w
  · have hc := Pl.allPair_at chkRotl hf hl
    simp only [Bool.and_eq_true, Bool.or_eq_true, beq_iff_eq, decide_eq_true_eq] at hc
    obtain ⟨h1, h2⟩ := hc
    have h3 := h2.resolve_left h
    have hf2 : (f + 63) % 64 < 64 := Nat.mod_lt _ (by decide)
    have hl2 : (l + 63) % 64 < 64 := Nat.mod_lt _ (by decide)
    have hu2 := Pl.mask64_lt hf2 hl2
    have hr := rotl_form _ hu
    rw [h1] at hr
    exact fnBoundsTurned_main f l _ _ hf hl hf2 hl2 _ _ (Lib.hid rfl) (Lib.hid rfl) hr (by simp only [beq_eq_false_iff_ne, ne_eq]; omega) (Lib.hid h) (Lib.hid h3) (Lib.hid (i64_back _ hu)) (Lib.hid (i64_back _ hu2)) (by omega) (by omega) w HT
end Go.Proofs.YteohmffbehbjpaaDoor
