/- The contract of decodeMask64. -/
import Derived.Test.YticennjldlbpfaaDoorBounds
namespace Go.Proofs.YticennjldlbpfaaDoor
open Go.RowKit
set_option linter.unusedVariables false

theorem and_up_form' (x : Nat) (hx : x < 18446744073709551616) :
    (bits .and .u64 (IntKind.u64.wrap (bits .and .u64 (x : Int) (IntKind.u64.wrap (-(x : Int))) + (x : Int))) (x : Int) == 0) = (x &&& Pl.up 64 x == 0) := by
  rw [up_form x hx, u64_and_nat _ _ (Pl.up_lt 64 x) hx, Nat.and_comm]
  exact nat_beq _ 0

def decEnd (b : Nat) : Int := bits .and .u32 ((64 - (b : Int) - 1) % 4294967296) 63
theorem chkEnd : ((List.range 65).all fun b => decEnd b == (if b = 64 then 63 else 63 - (b : Int))) = true := by decide +kernel
theorem decEnd_lt (b : Nat) (hb : b < 64) : decEnd b = ((63 - b : Nat) : Int) := by
  have := List.all_eq_true.1 chkEnd b (List.mem_range.2 (by omega))
  rw [beq_iff_eq, if_neg (by omega)] at this
  omega

theorem dec64_core (v : Int) (u a b : Nat) (r z : Bool) (hv : IntKind.u64.wrap v = u) (hu : Hid (u < 18446744073709551616)) (hA : Hid (Lib.bitLen u = a)) (hB : Hid (Lib.ctz 64 u = b)) (la : a ≤ 64) (lb : b ≤ 64)
    (hr : (bits .and .u64 (IntKind.u64.wrap (bits .and .u64 (u : Int) (IntKind.u64.wrap (-(u : Int))) + (u : Int))) (u : Int) == 0) = r) (hz : ((u : Int) != 0) = z) (w : World) (hT : Hid (Tab64 w)) :
    Calls Tryd.prog 20 #[.int .i64 v] w fun e w' => e = .returned (.tuple #[.int .u32 (64 - (a : Int)), .int .u32 (decEnd b), .bool (r && z)]) ∧ w = w' := by
  cases r <;> cases z
  all_goals
    go_enter Tryd.func20, Tryd.ntmps20
    go_wp2_with fail
    refine (lz_nat _ u a rfl hu.out hA.out _).mono ?_
    rintro e w' ⟨rfl, rfl⟩
    go_wp2_with fail
    refine (tz_nat _ u b rfl hu.out hB.out _ hT).mono ?_
    rintro e w' ⟨rfl, rfl⟩
    go_wp2_with fail
    go_ret3
    exact ⟨rfl, rfl⟩

theorem valid_run (u : Nat) (hu : u < 18446744073709551616) : ((u &&& Pl.up 64 u == 0) && (u != 0)) = Pl.runB 64 u := by
  rcases Nat.eq_zero_or_pos u with h | h
  · subst h; decide +kernel
  · rw [Pl.and_up_iff 64 u h hu]
    have : (u != 0) = true := by simp; omega
    rw [this, Bool.and_true]
theorem bitLenAux_le (f x : Nat) : Lib.bitLenAux f x ≤ f := by
  induction f generalizing x with
  | zero => exact Nat.le_refl _
  | succ f ih =>
    show (if x = 0 then 0 else 1 + Lib.bitLenAux f (x / 2)) ≤ _
    have := ih (x / 2)
    split <;> omega
theorem ctz_le (x : Nat) (hx : x < 18446744073709551616) : Lib.ctz 64 x ≤ 64 := by
  by_cases h : x = 0
  · subst h; decide
  · exact Nat.le_of_lt (Lib.lowest_bit 64 x h hx).2

theorem dec64_any (v : Int) (u : Nat) (hv : IntKind.u64.wrap v = u) (hu : u < 18446744073709551616) (w : World) (hT : Hid (Tab64 w)) :
    Calls Tryd.prog 20 #[.int .i64 v] w fun e w' => e = .returned (.tuple #[.int .u32 (64 - (Lib.bitLen u : Int)), .int .u32 (decEnd (Lib.ctz 64 u)), .bool (Pl.runB 64 u)]) ∧ w = w' := by
  have h := dec64_core v u _ _ _ _ hv (Lib.hid hu) (Lib.hid rfl) (Lib.hid rfl) (bitLenAux_le 64 u) (ctz_le u hu) (and_up_form' u hu) (show ((u : Int) != 0) = (u != 0) by rw [Bool.eq_iff_iff]; simp) w hT
  rwa [valid_run u hu] at h

theorem zdec64_any (v : Int) (a b : Int) (r : Bool) (w : World) (H : Hid (Calls Tryd.prog 20 #[.int .i64 v] w fun e w' => e = .returned (.tuple #[.int .u32 a, .int .u32 b, .bool r]) ∧ w = w')) :
    Calls Tryd.prog 17 #[.int .i64 v] w fun e w' => e = .returned (.tuple #[.int .u32 a, .int .u32 b, .bool r]) ∧ w = w' := by
  go_enter Tryd.func17, Tryd.ntmps17
  go_wp2_with (go_at_call 20; (with_reducible refine H.out.mono ?_); rintro e w' ⟨rfl, rfl⟩)
  go_ret3
  exact ⟨rfl, rfl⟩
theorem idec64_any (v : Int) (u a b : Nat) (r : Bool) (hv : Hid (IntKind.u64.wrap v = u)) (hu : Hid (u < 18446744073709551616)) (ha : Hid (64 - (Lib.bitLen u : Int) = a)) (hb : Hid (decEnd (Lib.ctz 64 u) = b)) (hr : Hid (Pl.runB 64 u = r)) (w : World) (hT : Hid (Tab64 w)) :
    Calls Tryd.prog 13 #[.int .i64 v] w fun e w' => e = .returned (.tuple #[.int .u32 a, .int .u32 b, .bool r]) ∧ w = w' := by
  have h := dec64_any v u hv.out hu.out w hT
  rw [ha.out, hb.out, hr.out] at h
  have H := Lib.hid (zdec64_any v a b r w (Lib.hid h))
  clear h
  go_enter Tryd.func13, Tryd.ntmps13
  go_wp2_with (go_at_call 17; (with_reducible refine H.out.mono ?_); rintro e w' ⟨rfl, rfl⟩)
  go_ret3
  exact ⟨rfl, rfl⟩
end Go.Proofs.YticennjldlbpfaaDoor
