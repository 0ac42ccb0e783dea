/- The contract of TrailingZeros64, under what its table holds. -/
import Derived.Test.YticennjldlbpfaaDoorShelf
import Derived.Test.YticennjldlbpfaaDoorU64
import Derived.Lib.TrailingZeros
namespace Go.Proofs.YticennjldlbpfaaDoor
open Go.RowKit

/-- What the table of 64 numbers holds. -/
def Tab64 (w : World) : Prop := ∀ i, i < 64 → w.cell? ⟨1, i, none⟩ = some (.int .u8 (Lib.deBruijn64tab.getD i 0 : Nat))

theorem tz_core (x q m i t : Nat) (e0 : ((x : Int) == 0) = false) (hl : bits .and .u64 (x : Int) (IntKind.u64.wrap (-(x : Int))) = (q : Int)) (hm : IntKind.u64.wrap ((q : Int) * 285870213051353865) = (m : Int))
    (hd : (m : Int) / 288230376151711744 = (i : Int)) (hi : i < 64) (ht : t < 64) (w : World) (hc : w.cell? ⟨1, i, none⟩ = some (.int .u8 (t : Nat))) :
    Calls Tryd.prog 24 #[.int .u64 x] w fun e w' => e = .returned (.int .i64 (t : Nat)) ∧ w = w' := by
  go_enter Tryd.func24, Tryd.ntmps24
  go_wp2
  go_ret
  exact ⟨rfl, rfl⟩
theorem tz_zero (w : World) : Calls Tryd.prog 24 #[.int .u64 ((0 : Nat) : Int)] w fun e w' => e = .returned (.int .i64 (64 : Nat)) ∧ w = w' := by
  go_enter Tryd.func24, Tryd.ntmps24
  go_wp2
  go_ret
  exact ⟨rfl, rfl⟩

theorem tz_prod (q : Nat) : IntKind.u64.wrap ((q : Int) * 285870213051353865) = ((q * 285870213051353865 % 18446744073709551616 : Nat) : Int) := by
  have e : (q : Int) * 285870213051353865 = ((q * 285870213051353865 : Nat) : Int) := by rw [Int.natCast_mul]; rfl
  rw [e, u64_nat]
theorem tz_div (m : Nat) : (m : Int) / 288230376151711744 = ((m / 288230376151711744 : Nat) : Int) := by
  rw [Int.natCast_ediv]; rfl

theorem tz64_any (z : Int) (x : Nat) (hz : z = x) (hx : x < 18446744073709551616) (w : World) (hT : Tab64 w) :
    Calls Tryd.prog 24 #[.int .u64 z] w fun e w' => e = .returned (.int .i64 (Lib.ctz 64 x : Nat)) ∧ w = w' := by
  subst hz
  by_cases h0 : x = 0
  · subst h0
    exact tz_zero w
  have e0 : ((x : Int) == 0) = false := by simp; omega
  obtain ⟨hlow, ht⟩ := Lib.lowest_bit 64 x h0 hx
  have hl : bits .and .u64 (x : Int) (IntKind.u64.wrap (-(x : Int))) = ((2 ^ Lib.ctz 64 x : Nat) : Int) := by rw [and_neg x hx]; exact congrArg Nat.cast hlow
  obtain ⟨hi, hv⟩ := Lib.deBruijn64_at _ ht
  have hc := hT _ hi
  rw [hv] at hc
  exact tz_core x _ _ _ _ e0 hl (tz_prod _) (tz_div _) hi ht w hc
end Go.Proofs.YticennjldlbpfaaDoor
