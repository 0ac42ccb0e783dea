/- Plain: what the decoders of encoding/binary find in front of a list. -/
import Derived.Lib.Varint
import Derived.Lib.VarintDec
namespace Go.Proofs.Ytmadidaiaggheaa

theorem uvf (y : Nat) : ∀ (i acc : Nat) (rest : List UInt8), i + (Lib.uvarint y).length ≤ 9 → Lib.uvarintFrom i acc (Lib.uvarint y ++ rest) = (acc + y * 2 ^ (7 * i), ((i + (Lib.uvarint y).length : Nat) : Int)) := by
  induction y using Nat.strongRecOn with
  | ind y ih =>
    intro i acc rest hl
    by_cases hy : y < 128
    · rw [Lib.uvarint_small hy] at hl ⊢
      simp only [List.length_cons, List.length_nil] at hl
      have hb : (y.toUInt8).toNat = y := by rw [Nat.toUInt8_eq, UInt8.toNat_ofNat']; omega
      simp only [List.cons_append, List.nil_append, Lib.uvarintFrom, hb]
      rw [if_neg (by omega), if_pos hy, if_neg (by omega)]
      simp
    · rw [Lib.uvarint_big (by omega)] at hl ⊢
      simp only [List.length_cons] at hl
      have hb : ((y % 128 + 128).toUInt8).toNat = y % 128 + 128 := by rw [Nat.toUInt8_eq, UInt8.toNat_ofNat']; omega
      simp only [List.cons_append, Lib.uvarintFrom, hb]
      rw [if_neg (by omega), if_neg (by omega), ih (y / 128) (by omega) (i + 1) _ rest (by omega)]
      have e : (y % 128 + 128) % 128 = y % 128 := by omega
      rw [e, show 7 * (i + 1) = 7 * i + 7 by omega, Nat.pow_add]
      have h2 : y / 128 * (2 ^ (7 * i) * 2 ^ 7) = (y / 128 * 128) * 2 ^ (7 * i) := by rw [show (2 : Nat) ^ 7 = 128 from rfl, Nat.mul_comm (2 ^ (7 * i)), ← Nat.mul_assoc]
      have h3 : y * 2 ^ (7 * i) = (y / 128 * 128) * 2 ^ (7 * i) + y % 128 * 2 ^ (7 * i) := by rw [← Nat.add_mul]; congr 1; omega
      simp only [List.length_cons, Prod.mk.injEq]
      constructor
      · rw [h2, h3]; omega
      · omega
theorem uvd (y : Nat) (rest : List UInt8) (h : (Lib.uvarint y).length ≤ 9) : Lib.uvarintDec (Lib.uvarint y ++ rest) = (y, ((Lib.uvarint y).length : Int)) := by
  unfold Lib.uvarintDec
  rw [uvf y 0 0 rest (by omega)]
  simp
theorem unzig (d : Int) : Lib.unzigzag (Lib.zigzag d) = d := by
  unfold Lib.unzigzag Lib.zigzag
  split
  · split <;> omega
  · split <;> omega
theorem vd (d : Int) (rest : List UInt8) (h : (Lib.uvarint (Lib.zigzag d)).length ≤ 9) : Lib.varintDec (Lib.uvarint (Lib.zigzag d) ++ rest) = (d, ((Lib.uvarint (Lib.zigzag d)).length : Int)) := by
  unfold Lib.varintDec
  rw [uvd _ _ h]
  simp only [unzig]
end Go.Proofs.Ytmadidaiaggheaa
