/- The contracts of sequenceOfOnes, of the thin functions round it, and of the reference's Ones and IsRun. -/
import Derived.Test.YtnohdfdjhhmmdaaProg
import Derived.Test.YtnohdfdjhhmmdaaU64
namespace Go.Proofs.Ytnohdfdjhhmmdaa
open Go.RowKit

theorem seq_any (z : Int) (x : Nat) (hz : z = x) (hx : x < 18446744073709551616) (w : World) :
    Calls Try.prog 29 #[.int .u64 z] w fun e w' => e = .returned (.bool (Pl.onesB 64 x)) ∧ w = w' := by
  subst hz
  go_enter Try.func29, Try.ntmps29
  go_wp2
  go_ret
  exact ⟨ret_bool (seq_form x hx), rfl⟩

theorem ones_any (z : Int) (k : Nat) (hz : z = k) (hk : k ≤ 64) (w : World) :
    Calls Try.prog 25 #[.int .i64 z] w fun e w' => e = .returned (.int .u64 ((2 ^ k - 1 : Nat) : Int)) ∧ w = w' := by
  subst hz
  by_cases h : (k : Int) < 64
  · go_enter Try.func25, Try.ntmps25
    go_wp2
    go_ret
    exact ⟨ret_int (ones_form k h), rfl⟩
  · go_enter Try.func25, Try.ntmps25
    go_wp2
    go_ret
    obtain rfl : k = 64 := by omega
    exact ⟨ret_int rfl, rfl⟩

end Go.Proofs.Ytnohdfdjhhmmdaa
