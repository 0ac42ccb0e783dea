/- The contract of encodePPC64RLDCMask at every mask that is not of all bits. -/
import Derived.Test.YticennjldlbpfaaDoorTz
import Derived.Test.YticennjldlbpfaaDoorRotWalks
namespace Go.Proofs.YticennjldlbpfaaDoor
open Go.RowKit
set_option linter.unusedVariables false

theorem lz_nat (z : Int) (x a : Nat) (hz : z = x) (hx : x < 18446744073709551616) (ha : Lib.bitLen x = a) (w : World) :
    Calls Tryd.prog 23 #[.int .u64 z] w fun e w' => e = .returned (.int .i64 (64 - (a : Int))) ∧ w = w' := by
  subst hz
  have := Tryd.bits_LeadingZeros64 (x : Int) w (by omega) (by omega)
  rw [Int.toNat_natCast, ha] at this
  exact this.mono fun _ _ ⟨h1, h2⟩ => ⟨h1, h2.symm⟩
theorem tz_nat (z : Int) (x b : Nat) (hz : z = x) (hx : x < 18446744073709551616) (hb : Lib.ctz 64 x = b) (w : World) (hT : Hid (Tab64 w)) :
    Calls Tryd.prog 24 #[.int .u64 z] w fun e w' => e = .returned (.int .i64 (b : Nat)) ∧ w = w' := by
  have := tz64_any z x hz hx w hT.out
  rwa [hb] at this

end Go.Proofs.YticennjldlbpfaaDoor
