/- The contracts of sequenceOfOnes, of the thin functions round it, and of the reference's Ones and IsRun. -/
import Derived.Test.YticennjldlbpfaaDoorProg
import Derived.Test.YticennjldlbpfaaDoorU64
namespace Go.Proofs.YticennjldlbpfaaDoor
open Go.RowKit

theorem ones_any (z : Int) (k : Nat) (hz : z = k) (hk : k ≤ 64) (w : World) :
    Calls Tryd.prog 18 #[.int .i64 z] w fun e w' => e = .returned (.int .u64 ((2 ^ k - 1 : Nat) : Int)) ∧ w = w' := by
  subst hz
  by_cases h : (k : Int) < 64
  · go_enter Tryd.func18, Tryd.ntmps18
    go_wp2
    go_ret
    exact ⟨ret_int (ones_form k h), rfl⟩
  · go_enter Tryd.func18, Tryd.ntmps18
    go_wp2
    go_ret
    obtain rfl : k = 64 := by omega
    exact ⟨ret_int rfl, rfl⟩

def NoRun (x k : Nat) : Prop := ∀ n b, 1 ≤ n → n < k → n + b ≤ 64 → x ≠ (2 ^ n - 1) * 2 ^ b
def NoRunAt (x k j : Nat) : Prop := ∀ b, b < j → x ≠ (2 ^ k - 1) * 2 ^ b

theorem run_yes (x k j : Nat) (hk : 1 ≤ k) (hj : j + k ≤ 64) (h : (IntKind.u64.wrap (((2 ^ k - 1 : Nat) : Int) * 2 ^ j) == (x : Int)) = true) : true = Pl.runB 64 x := by
  rw [shl_form _ _ (run_lt k j (by omega)), nat_beq, beq_iff_eq] at h
  exact ((Pl.runB_iff 64 x).2 ⟨k, j, hk, by omega, h.symm⟩).symm

theorem run_next (x k j : Nat) (hj : j + k ≤ 64) (hn : NoRunAt x k j) (h : (IntKind.u64.wrap (((2 ^ k - 1 : Nat) : Int) * 2 ^ j) == (x : Int)) = false) : NoRunAt x k (j + 1) := by
  rw [shl_form _ _ (run_lt k j (by omega)), nat_beq] at h
  have h2 : (2 ^ k - 1) * 2 ^ j ≠ x := by simpa using h
  intro b hb
  by_cases e : b = j
  · subst e; exact h2.symm
  · exact hn b (by omega)

theorem run_out (x k j : Nat) (hj : 64 < j + k) (hn : NoRun x k) (hnj : NoRunAt x k j) : NoRun x (k + 1) := by
  intro n b h1 h2 h3
  by_cases e : n = k
  · subst e; exact hnj b (by omega)
  · exact hn n b h1 (by omega) h3

theorem run_no (x k : Nat) (hk : 64 < k) (hn : NoRun x k) : false = Pl.runB 64 x := by
  cases h : Pl.runB 64 x with
  | false => rfl
  | true =>
    obtain ⟨n, b, h1, h2, h3⟩ := (Pl.runB_iff 64 x).1 h
    exact absurd h3 (hn n b h1 (by omega) h2)

theorem isrun_any (z : Int) (x : Nat) (hz : z = x) (w : World) :
    Calls Tryd.prog 14 #[.int .u64 z] w fun e w' => e = .returned (.bool (Pl.runB 64 x)) ∧ w = w' := by
  subst hz
  go_enter Tryd.func14, Tryd.ntmps14
  go_wp2
  go_loop [3] (fun n => ∃ k : Nat, 1 ≤ k ∧ k ≤ 65 ∧ n = .int .i64 k ∧ NoRun x k) (fun n => 65 - (intOf n).toNat)
  case atStart => exact ⟨1, by omega, by omega, rfl, fun n b h1 h2 => by omega⟩
  case round =>
    obtain ⟨k, hk1, hk2, rfl, hno⟩ := hrel
    by_cases hlt : k ≤ 64
    · go_wp2
      go_loop [4] (fun b => ∃ j : Nat, j + k ≤ 65 ∧ b = .int .i64 j ∧ NoRunAt x k j) (fun b => 65 - (intOf b).toNat)
      case atStart => exact ⟨0, by omega, rfl, fun b h => by omega⟩
      case round =>
        obtain ⟨j, hj, rfl, hnoj⟩ := hrel
        by_cases hjt : j + k ≤ 64
        · go_wp2_with (go_at_call 18; refine (ones_any _ k rfl hlt _).mono ?_; rintro e w' ⟨rfl, rfl⟩)
          · go_ret
            exact ⟨ret_bool (run_yes x k j hk1 hjt ‹_›), rfl⟩
          · have h := run_next x k j hjt hnoj ‹_›
            go_round
            case rel => exact ⟨j + 1, by omega, by go_num, h⟩
            case measure => simp [intOf]; omega
        · go_wp2
          go_round
          case rel => exact ⟨k + 1, by omega, by omega, by go_num, run_out x k j (by omega) hno hnoj⟩
          case measure => simp [intOf]; omega
    · go_wp2
      go_ret
      exact ⟨ret_bool (run_no x k (by omega) hno), rfl⟩
end Go.Proofs.YticennjldlbpfaaDoor
