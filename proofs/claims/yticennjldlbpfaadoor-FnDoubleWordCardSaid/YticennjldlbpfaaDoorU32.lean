/- Words of 32 bits: how the walk spells Go's operations, and the same as natural numbers; the contract of TrailingZeros32. -/
import Derived.Test.YticennjldlbpfaaDoorShelf
import Derived.Test.YticennjldlbpfaaDoorU64
import Derived.Lib.TrailingZeros
namespace Go.Proofs.YticennjldlbpfaaDoor
open Go.RowKit

/-- What the table of 32 numbers holds. -/
def Tab32 (w : World) : Prop := ∀ i, i < 32 → w.cell? ⟨0, i, none⟩ = some (.int .u8 (Lib.deBruijn32tab.getD i 0 : Nat))

theorem and_neg32 (x : Nat) (hx : x < 4294967296) : bits .and .u32 (x : Int) (-(x : Int) % 4294967296) = ((x &&& (4294967296 - x) : Nat) : Int) := by
  have e : -(x : Int) % 4294967296 = (((4294967296 - x) % 4294967296 : Nat) : Int) := by omega
  rw [e, u32_and_nat _ _ hx (Nat.mod_lt _ (by decide))]
  rcases Nat.eq_zero_or_pos x with h | h
  · subst h; simp
  · rw [Nat.mod_eq_of_lt (by omega)]
theorem up_form32 (x : Nat) (hx : x < 4294967296) : (bits .and .u32 (x : Int) (-(x : Int) % 4294967296) + (x : Int)) % 4294967296 = ((Pl.up 32 x : Nat) : Int) := by
  rw [and_neg32 x hx]
  unfold Pl.up
  rw [show (2 : Nat) ^ 32 = 4294967296 from rfl]
  omega
theorem and_up32 (x : Nat) (hx : x < 4294967296) :
    (bits .and .u32 (x : Int) ((bits .and .u32 (x : Int) (-(x : Int) % 4294967296) + (x : Int)) % 4294967296) == 0) = (x &&& Pl.up 32 x == 0) := by
  rw [up_form32 x hx, u32_and_nat _ _ hx (Pl.up_lt 32 x)]
  exact nat_beq _ 0
theorem not_max32 (x : Nat) (hx : x < 4294967296) : bits .xor .u32 IntKind.u32.max (x : Int) = ((4294967295 - x : Nat) : Int) := by
  have h := u32_xor_nat 4294967295 x (by decide) hx
  rw [show ((4294967295 : Nat) : Int) = IntKind.u32.max by decide] at h
  rw [h]
  exact congrArg Nat.cast (xor_ones 32 x hx)
theorem u32_unsigned : IntKind.u32.signed = false := rfl

theorem tz32_core (x q m i t : Nat) (e0 : ((x : Int) == 0) = false) (hl : bits .and .u32 (x : Int) (-(x : Int) % 4294967296) = (q : Int)) (hm : (q : Int) * 125613361 % 4294967296 = (m : Int))
    (hd : (m : Int) / 134217728 = (i : Int)) (hi : i < 32) (ht : t < 32) (w : World) (hc : w.cell? ⟨0, i, none⟩ = some (.int .u8 (t : Nat))) :
    Calls Tryd.prog 22 #[.int .u32 x] w fun e w' => e = .returned (.int .i64 (t : Nat)) ∧ w = w' := by
  go_enter Tryd.func22, Tryd.ntmps22
  go_wp2
  go_ret
  exact ⟨rfl, rfl⟩
theorem tz32_zero (w : World) : Calls Tryd.prog 22 #[.int .u32 ((0 : Nat) : Int)] w fun e w' => e = .returned (.int .i64 (32 : Nat)) ∧ w = w' := by
  go_enter Tryd.func22, Tryd.ntmps22
  go_wp2
  go_ret
  exact ⟨rfl, rfl⟩
theorem tz32_prod (q : Nat) : (q : Int) * 125613361 % 4294967296 = ((q * 125613361 % 4294967296 : Nat) : Int) := by
  omega
theorem tz32_div (m : Nat) : (m : Int) / 134217728 = ((m / 134217728 : Nat) : Int) := by
  omega

theorem tz32_any (z : Int) (x : Nat) (hz : z = x) (hx : x < 4294967296) (w : World) (hT : Tab32 w) :
    Calls Tryd.prog 22 #[.int .u32 z] w fun e w' => e = .returned (.int .i64 (Lib.ctz 32 x : Nat)) ∧ w = w' := by
  subst hz
  by_cases h0 : x = 0
  · subst h0
    exact tz32_zero w
  have e0 : ((x : Int) == 0) = false := by simp; omega
  obtain ⟨hlow, ht⟩ := Lib.lowest_bit 32 x h0 hx
  have hl : bits .and .u32 (x : Int) (-(x : Int) % 4294967296) = ((2 ^ Lib.ctz 32 x : Nat) : Int) := by rw [and_neg32 x hx]; exact congrArg Nat.cast hlow
  obtain ⟨hi, hv⟩ := Lib.deBruijn32_at _ ht
  have hc := hT _ hi
  rw [hv] at hc
  exact tz32_core x _ _ _ _ e0 hl (tz32_prod _) (tz32_div _) hi ht w hc

theorem lz32_nat (z : Int) (x a : Nat) (hz : z = x) (hx : x < 4294967296) (ha : Lib.bitLen x = a) (w : World) :
    Calls Tryd.prog 21 #[.int .u32 z] w fun e w' => e = .returned (.int .i64 (32 - (a : Int))) ∧ w = w' := by
  subst hz
  have := Tryd.bits_LeadingZeros32 (x : Int) w (by omega) (by omega)
  rw [Int.toNat_natCast, ha] at this
  exact this.mono fun _ _ ⟨h1, h2⟩ => ⟨h1, h2.symm⟩
theorem tz32_nat (z : Int) (x b : Nat) (hz : z = x) (hx : x < 4294967296) (hb : Lib.ctz 32 x = b) (w : World) (hT : Hid (Tab32 w)) :
    Calls Tryd.prog 22 #[.int .u32 z] w fun e w' => e = .returned (.int .i64 (b : Nat)) ∧ w = w' := by
  have := tz32_any z x hz hx w hT.out
  rwa [hb] at this
end Go.Proofs.YticennjldlbpfaaDoor
