/- The contract of log2. -/
import Derived.Test.YtnohdfdjhhmmdaaShelf
import Derived.Test.YtnohdfdjhhmmdaaU64
namespace Go.Proofs.Ytnohdfdjhhmmdaa
open Go.RowKit

theorem bitLenAux_log (f x : Nat) (hx : x < 2 ^ f) (h0 : x ≠ 0) : Lib.bitLenAux f x = x.log2 + 1 := by
  induction f generalizing x with
  | zero => simp at hx; omega
  | succ f ih =>
    show (if x = 0 then 0 else 1 + Lib.bitLenAux f (x / 2)) = _
    rw [if_neg h0]
    by_cases h1 : x / 2 = 0
    · have : x = 1 := by omega
      subst this
      rw [h1]
      have : Lib.bitLenAux f 0 = 0 := by cases f <;> rfl
      rw [this]
      decide
    · rw [ih (x / 2) (by rw [Nat.pow_succ] at hx; omega) h1, Nat.log2_def x, if_pos (by omega)]
      omega
theorem bitLen_log (x : Nat) (hx : x < 18446744073709551616) (h0 : x ≠ 0) : Lib.bitLen x = x.log2 + 1 := bitLenAux_log 64 x hx h0
theorem log_lt (x : Nat) (hx : x < 18446744073709551616) (h0 : x ≠ 0) : x.log2 < 64 := (Nat.log2_lt h0).2 hx

theorem log2_any (z : Int) (x : Nat) (hz : z = x) (h0 : x ≠ 0) (hx : x < 18446744073709551616) (w : World) :
    Calls Try.prog 30 #[.int .u64 z] w fun e w' => e = .returned (.int .u32 (x.log2 : Nat)) ∧ w = w' := by
  subst hz
  have e0 : ((x : Int) == 0) = false := by simp; omega
  have hb := Lib.hid (bitLen_log x hx h0)
  have hl := Lib.hid (log_lt x hx h0)
  have HX := Lib.hid hx
  clear h0 hx
  go_enter Try.func30, Try.ntmps30
  go_wp2_with fail
  refine (Try.bits_Len64 _ _ (by omega) (by have := HX.out; omega)).mono ?_
  rw [Int.toNat_natCast, hb.out]
  obtain ⟨l, hl2⟩ : ∃ l, l = x.log2 := ⟨_, rfl⟩
  rw [← hl2]
  have hl3 : l < 64 := by rw [hl2]; exact hl.out
  have HL := Lib.hid hl2
  clear hl2
  rintro e w' ⟨rfl, rfl⟩
  go_wp2
  go_ret
  exact ⟨ret_int (by have := HL.out; omega), rfl⟩
end Go.Proofs.Ytnohdfdjhhmmdaa
