/- Words of 64 bits: how the walk spells Go's operations, and the same as natural numbers. -/
import Derived.WalkKit
import Derived.WalkLawsBesides
import Derived.WalkSpells
import Derived.Outline
import Derived.OpenShut
import Derived.Laws.BitsAllLaws
import Derived.Lib.Hide
import Derived.Deep.QuietTactic
import Derived.BigQuiet
import Derived.Test.YticennjldlbpfaaDoorRuns
namespace Go.Proofs.YticennjldlbpfaaDoor
open Go.RowKit

theorem ret_bool {a b : Bool} (h : a = b) : Ending.returned (.bool a) = .returned (.bool b) := by rw [h]
theorem ret_int {k : IntKind} {a b : Int} (h : a = b) : Ending.returned (.int k a) = .returned (.int k b) := by rw [h]

theorem quiet_left {P : Program} {f : FuncId} {args : Array Value} {w : World} {n : Nat} {v : Value}
    (h : Calls P f args (w.drewN n) fun e w' => e = .returned v ∧ w.drewN n = w') : Calls P f args (w.drewN n) fun e w'' => e = .returned v ∧ ∃ m, w'' = w.drewN m :=
  h.mono fun _ _ ⟨he, hm⟩ => ⟨he, n, hm.symm⟩
theorem quiet_add_left {P : Program} {f : FuncId} {args : Array Value} {w : World} {a n : Nat} {v : Value}
    (h : Calls P f args (w.drewN (a + n)) fun e w' => e = .returned v ∧ w.drewN (a + n) = w') : Calls P f args (w.drewN (a + n)) fun e w'' => e = .returned v ∧ ∃ m, w'' = w.drewN (a + m) :=
  h.mono fun _ _ ⟨he, hm⟩ => ⟨he, n, hm.symm⟩
theorem grown_drewN {W w' : World} (h : Grown W w') (n : Nat) : Grown W (w'.drewN n) := h

theorem u64_neg (x : Nat) (_hx : x < 18446744073709551616) : IntKind.u64.wrap (-(x : Int)) = (((18446744073709551616 - x) % 18446744073709551616 : Nat) : Int) := by
  rw [IntKind.wrap_u64]; omega
theorem u64_add (a b : Nat) : IntKind.u64.wrap ((a : Int) + (b : Int)) = (((a + b) % 18446744073709551616 : Nat) : Int) := by
  rw [IntKind.wrap_u64]; omega
theorem u64_dec (a : Nat) (_ha : a < 18446744073709551616) : IntKind.u64.wrap ((a : Int) - 1) = (((a + 18446744073709551615) % 18446744073709551616 : Nat) : Int) := by
  rw [IntKind.wrap_u64]; omega
theorem u64_nat (a : Nat) : IntKind.u64.wrap (a : Int) = ((a % 18446744073709551616 : Nat) : Int) := by
  rw [IntKind.wrap_u64]; omega
theorem nat_beq (a b : Nat) : ((a : Int) == (b : Int)) = (a == b) := by
  rw [Bool.eq_iff_iff]; simp only [beq_iff_eq]; omega
theorem two_pow_cast (k : Nat) : ((2 : Int) ^ k) = ((2 ^ k : Nat) : Int) := by rw [Int.natCast_pow]; rfl
theorem mul_pow_cast (a k : Nat) : (a : Int) * (2 : Int) ^ k = ((a * 2 ^ k : Nat) : Int) := by rw [two_pow_cast, Int.natCast_mul]

theorem and_neg (x : Nat) (hx : x < 18446744073709551616) : bits .and .u64 (x : Int) (IntKind.u64.wrap (-(x : Int))) = ((x &&& (18446744073709551616 - x) : Nat) : Int) := by
  rw [u64_neg x hx, u64_and_nat _ _ hx (Nat.mod_lt _ (by decide))]
  rcases Nat.eq_zero_or_pos x with h | h
  · subst h; simp
  · rw [Nat.mod_eq_of_lt (by omega)]

theorem up_form (x : Nat) (hx : x < 18446744073709551616) : IntKind.u64.wrap (bits .and .u64 (x : Int) (IntKind.u64.wrap (-(x : Int))) + (x : Int)) = ((Pl.up 64 x : Nat) : Int) := by
  rw [and_neg x hx, u64_add]; rfl

theorem seq_form (x : Nat) (hx : x < 18446744073709551616) :
    (bits .and .u64 (IntKind.u64.wrap (IntKind.u64.wrap (bits .and .u64 (x : Int) (IntKind.u64.wrap (-(x : Int))) + (x : Int)) - 1)) (IntKind.u64.wrap (bits .and .u64 (x : Int) (IntKind.u64.wrap (-(x : Int))) + (x : Int))) == 0) = Pl.onesB 64 x := by
  have hu : Pl.up 64 x < 18446744073709551616 := Pl.up_lt 64 x
  rw [up_form x hx, u64_dec _ hu, u64_and_nat _ _ (Nat.mod_lt _ (by decide)) hu]
  exact nat_beq _ 0

theorem pow_le64 (k : Nat) (hk : k ≤ 64) : 2 ^ k ≤ 18446744073709551616 := Nat.pow_le_pow_right (n := 2) (by omega) hk

theorem ones_form (k : Nat) (hk : (k : Int) < 64) : IntKind.u64.wrap (IntKind.u64.wrap (2 ^ k) - 1) = ((2 ^ k - 1 : Nat) : Int) := by
  have h1 : 2 ^ k < 18446744073709551616 := by
    have : 2 ^ k < 2 ^ 64 := Nat.pow_lt_pow_right (by omega) (by omega)
    simpa using this
  have h2 : 0 < 2 ^ k := Nat.pow_pos (by omega)
  rw [two_pow_cast, u64_nat, Nat.mod_eq_of_lt h1, IntKind.wrap_u64]
  omega

theorem shl_form (a j : Nat) (h : a * 2 ^ j < 18446744073709551616) : IntKind.u64.wrap ((a : Int) * 2 ^ j) = ((a * 2 ^ j : Nat) : Int) := by
  rw [mul_pow_cast, u64_nat, Nat.mod_eq_of_lt h]

theorem run_lt (k j : Nat) (h : k + j ≤ 64) : (2 ^ k - 1) * 2 ^ j < 18446744073709551616 := by
  have h1 : 2 ^ k * 2 ^ j ≤ 18446744073709551616 := by rw [← Nat.pow_add]; exact pow_le64 _ h
  have h2 : 0 < 2 ^ k := Nat.pow_pos (by omega)
  have h3 : 0 < 2 ^ j := Nat.pow_pos (by omega)
  have : (2 ^ k - 1) * 2 ^ j < 2 ^ k * 2 ^ j := Nat.mul_lt_mul_of_pos_right (by omega) h3
  omega

theorem xor_ones (n x : Nat) (hx : x < 2 ^ n) : (2 ^ n - 1) ^^^ x = 2 ^ n - 1 - x := by
  have e : 2 ^ n - 1 - x = 2 ^ n - (x + 1) := by omega
  apply Nat.eq_of_testBit_eq
  intro i
  rw [e, Nat.testBit_xor, Nat.testBit_two_pow_sub_one, Nat.testBit_two_pow_sub_succ hx]
  by_cases h : i < n
  · simp [h]
  · have : x.testBit i = false := Nat.testBit_lt_two_pow (Nat.lt_of_lt_of_le hx (Nat.pow_le_pow_right (by omega) (by omega)))
    simp [h, this]

theorem not_form (x : Nat) (hx : x < 18446744073709551616) : bits .xor .u64 18446744073709551615 (x : Int) = ((18446744073709551615 - x : Nat) : Int) := by
  have h := u64_xor_nat 18446744073709551615 x (by decide) hx
  rw [show ((18446744073709551615 : Nat) : Int) = 18446744073709551615 from rfl] at h
  rw [h]
  exact congrArg Nat.cast (xor_ones 64 x hx)

theorem not_max (x : Nat) (hx : x < 18446744073709551616) : bits .xor .u64 IntKind.u64.max (x : Int) = ((18446744073709551615 - x : Nat) : Int) :=
  (congrArg (fun m => bits .xor .u64 m (x : Int)) (show IntKind.u64.max = 18446744073709551615 by decide)).trans (not_form x hx)
theorem u64_unsigned : IntKind.u64.signed = false := rfl

theorem and_up_form (x : Nat) (hx : x < 18446744073709551616) :
    (bits .and .u64 (x : Int) (IntKind.u64.wrap (bits .and .u64 (x : Int) (IntKind.u64.wrap (-(x : Int))) + (x : Int))) == 0) = (x &&& Pl.up 64 x == 0) := by
  rw [up_form x hx, u64_and_nat _ _ hx (Pl.up_lt 64 x)]
  exact nat_beq _ 0

theorem u64_of (v : Int) : ∃ u : Nat, IntKind.u64.wrap v = u ∧ u < 18446744073709551616 := by
  refine ⟨(v % 18446744073709551616).toNat, ?_, by omega⟩
  rw [IntKind.wrap_u64]; omega

end Go.Proofs.YticennjldlbpfaaDoor
