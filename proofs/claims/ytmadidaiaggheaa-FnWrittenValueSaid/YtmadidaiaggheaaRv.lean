/- The contract of readvarint. -/
import Derived.Test.YtmadidaiaggheaaCl
namespace Go.Proofs.Ytmadidaiaggheaa
open Go.RowKit
set_option linter.unusedVariables false

def slen : Value → Nat
  | .slice _ n _ => n
  | _ => 0

theorem or_add (a m k : Nat) (h : a < 2 ^ k) : a ||| (m * 2 ^ k) = a + m * 2 ^ k := by
  have := Nat.two_pow_add_eq_or_of_lt h m
  rw [Nat.mul_comm m, Nat.or_comm, ← this, Nat.add_comm]
theorem and127 (x : Int) (h0 : 0 ≤ x) (h1 : x < 256) : bits .and .u32 x 127 = ((x.toNat % 128 : Nat) : Int) := by
  obtain ⟨n, rfl⟩ := Int.eq_ofNat_of_zero_le h0
  have h := u32_and_nat n 127 (by omega) (by decide)
  rw [show ((127 : Nat) : Int) = 127 from rfl] at h
  rw [h, Int.toNat_natCast]
  exact congrArg Nat.cast (Nat.and_two_pow_sub_one_eq_mod n 7)
theorem rv_or (acc x : Int) (k : Nat) (h0 : 0 ≤ acc) (ha : acc.toNat < 2 ^ k) (hx0 : 0 ≤ x) (hx1 : x < 256) (hlt : acc.toNat + x.toNat % 128 * 2 ^ k < 4294967296) :
    bits .or .u32 acc (bits .and .u32 x 127 * 2 ^ k % 4294967296) = ((acc.toNat + x.toNat % 128 * 2 ^ k : Nat) : Int) := by
  rw [and127 x hx0 hx1]
  obtain ⟨a, rfl⟩ := Int.eq_ofNat_of_zero_le h0
  rw [Int.toNat_natCast] at *
  have e : ((x.toNat % 128 : Nat) : Int) * 2 ^ k = ((x.toNat % 128 * 2 ^ k : Nat) : Int) := by rw [Int.natCast_mul, Int.natCast_pow]; rfl
  rw [e]
  generalize hq : x.toNat % 128 * 2 ^ k = q at *
  rw [show (q : Int) % 4294967296 = (q : Int) by omega, u32_or_nat _ _ (by omega) (by omega), ← hq, or_add _ _ _ ha]
theorem chk128 : ((List.range 256).all fun b => (b &&& 128 == 0) == decide (b < 128)) = true := by decide +kernel
theorem and128 (x : Int) (h0 : 0 ≤ x) (h1 : x < 256) : (bits .and .u8 x 128 == 0) = decide (x < 128) := by
  obtain ⟨n, rfl⟩ := Int.eq_ofNat_of_zero_le h0
  have h := u8_and_nat n 128 (by omega) (by decide)
  rw [show ((128 : Nat) : Int) = 128 from rfl] at h
  have := List.all_eq_true.1 chk128 n (List.mem_range.2 (by omega))
  rw [beq_iff_eq] at this
  rw [h, Bool.eq_iff_iff]
  rw [Bool.eq_iff_iff] at this
  simp only [beq_iff_eq, decide_eq_true_eq] at *
  omega

/-- What holds at the head of a round: acc is what was read, y is what is still to come. -/
structure RvInv (w : World) (B x : Nat) (rest : List UInt8) (acc y : Nat) (k : Nat) (A : Option Addr) (n c : Nat) : Prop where
  k28 : k ≤ 28
  lt : acc < 2 ^ k
  sum : acc + y * 2 ^ k = x
  pos : k = 0 ∨ 1 ≤ y
  sl : Sl w B A n c (Lib.uvarint y ++ rest)

theorem pow_le28 {k : Nat} (h : 28 < k) : 4294967296 ≤ 2 ^ (k + 4) := Nat.pow_le_pow_right (n := 2) (i := 32) (by omega) (by omega)

theorem RvInv.next {w : World} {B x acc y k n c b o : Nat} {rest : List UInt8} (h : RvInv w B x rest acc y k (some ⟨b, o, none⟩) n c) (hx : x < 4294967296) (hk : k % 7 = 0) (hy : 128 ≤ y) :
    RvInv w B x rest (acc + y % 128 * 2 ^ k) (y / 128) (k + 7) (if c = 1 then some ⟨b, o, none⟩ else some ⟨b, o + 1, none⟩) (n - 1) (c - 1) := by
  have hp : 2 ^ (k + 7) = 128 * 2 ^ k := by rw [Nat.pow_add, Nat.mul_comm]
  have hd : y * 2 ^ k = (y / 128) * (128 * 2 ^ k) + y % 128 * 2 ^ k := by
    rw [← Nat.mul_assoc, ← Nat.add_mul]; congr 1; omega
  have hm : y % 128 * 2 ^ k ≤ 127 * 2 ^ k := Nat.mul_le_mul_right _ (by omega)
  have h1 := h.sum
  have h2 := h.lt
  have hq : 1 ≤ y / 128 := by omega
  refine ⟨?_, by rw [hp]; omega, by rw [hp]; omega, .inr hq, ?_⟩
  · rcases Nat.lt_or_ge 28 (k + 7) with hk2 | hk2
    · exfalso
      have h3 : 4294967296 ≤ 2 ^ (k + 7) := Nat.pow_le_pow_right (n := 2) (i := 32) (by omega) (by omega)
      have h4 : 1 * 2 ^ (k + 7) ≤ y / 128 * 2 ^ (k + 7) := Nat.mul_le_mul_right _ hq
      rw [hp] at h3 h4
      omega
    · omega
  · have hs := h.sl
    rw [Lib.uvarint_big hy] at hs
    have hn : 1 ≤ n := by rw [← hs.len]; simp
    have := hs.drop 1 hn
    simpa [Addr.add_lit] using this
theorem RvInv.last {w : World} {B x acc y k n c b o : Nat} {rest : List UInt8} (h : RvInv w B x rest acc y k (some ⟨b, o, none⟩) n c) (hy : y < 128) :
    acc + y * 2 ^ k = x ∧ Sl w B (if c = 1 then some ⟨b, o, none⟩ else some ⟨b, o + 1, none⟩) (n - 1) (c - 1) rest := by
  refine ⟨h.sum, ?_⟩
  have hs := h.sl
  rw [Lib.uvarint_small hy] at hs
  have hn : 1 ≤ n := by rw [← hs.len]; simp
  have := hs.drop 1 hn
  simpa [Addr.add_lit] using this

/-- The first byte, and where it lies. -/
theorem RvInv.byte {w : World} {B x acc y k n c : Nat} {A : Option Addr} {rest : List UInt8} (h : RvInv w B x rest acc y k A n c) :
    ∃ (b o : Nat) (z : Int), A = some ⟨b, o, none⟩ ∧ w.cell? ⟨b, o, none⟩ = some (.int .u8 z) ∧ 0 ≤ z ∧ z < 256 ∧ (y < 128 ∧ z = y ∨ 128 ≤ y ∧ z = (y % 128 : Nat) + 128) := by
  have hs := h.sl
  by_cases hy : y < 128
  · rw [Lib.uvarint_small hy] at hs
    obtain ⟨b, o, rfl, _, hc⟩ := hs.at_ (k := 0) (by rw [← hs.len]; simp)
    have h0 := hc 0 (by simp)
    refine ⟨b, o, y, rfl, ?_, by omega, by omega, .inl ⟨hy, rfl⟩⟩
    simp only [List.cons_append, List.getElem_cons_zero, Nat.add_zero] at h0
    rw [h0, ← u8_of _ (by omega)]
  · rw [Lib.uvarint_big (by omega)] at hs
    obtain ⟨b, o, rfl, _, hc⟩ := hs.at_ (k := 0) (by rw [← hs.len]; simp)
    have h0 := hc 0 (by simp)
    refine ⟨b, o, (y % 128 : Nat) + 128, rfl, ?_, by omega, by omega, .inr ⟨by omega, rfl⟩⟩
    simp only [List.cons_append, List.getElem_cons_zero, Nat.add_zero] at h0
    rw [h0, ← u8_of _ (by omega)]
    congr 2

def RvPost (w : World) (pb B x : Nat) (rest : List UInt8) (e : Ending) (w' : World) : Prop :=
  ∃ A n c, e = .returned (.int .u32 x) ∧ w' = w.setCell ⟨pb, 0, none⟩ (.slice A n c) ∧ Sl w B A n c rest

/-- The relation of the loop. -/
def RvRel (w : World) (B x : Nat) (rest : List UInt8) (v s p : Value) : Prop :=
  ∃ (acc : Int) (y k : Nat) (A : Option Addr) (n c : Nat), v = .int .u32 acc ∧ s = .int .u32 k ∧ p = .slice A n c ∧ 0 ≤ acc ∧ k % 7 = 0 ∧ RvInv w B x rest acc.toNat y k A n c

theorem rv_any (T : Value) (pb n c B x : Nat) (A : Option Addr) (rest : List UInt8) (w : World) (hx : x < 4294967296) (hc : w.cell? ⟨pb, 0, none⟩ = some (.slice A n c)) (hf : w.frozen? ⟨pb, 0, none⟩ = false) (hs : Sl w B A n c (Lib.uvarint x ++ rest)) :
    Calls Try.prog 40 #[T, .pointer (some ⟨pb, 0, none⟩)] w (RvPost w pb B x rest) := by
  have HX := Lib.hid hx
  have HS := Lib.hid hs
  clear hx hs
  go_enter Try.func40, Try.ntmps40
  go_wp2
  go_loop [5, 6, 7, 8] (fun v s p _ => RvRel w B x rest v s p) (fun _ _ p _ => slen p)
  case atStart => exact ⟨0, x, 0, A, n, c, rfl, rfl, rfl, by omega, rfl, by omega, by simp, by simp, .inl rfl, HS.out⟩
  case round =>
    obtain ⟨acc, y, k, A, n, c, rfl, rfl, rfl, ha0, hk7, hi⟩ := hrel
    obtain ⟨b, o, z, rfl, hz, hz0, hz1, hy⟩ := hi.byte
    have hn1 : 1 ≤ n := by have := hi.sl.len; have := Lib.uvarint_pos y; simp at *; omega
    have hn2 := hi.sl.cap
    have hn3 := hi.sl.mx
    have hk := hi.k28
    have hsum := hi.sum
    have ha1 : acc < 4294967296 := by have := HX.out; have : acc.toNat ≤ x := by omega
                                      omega
    have h8 := and128 z hz0 hz1
    rcases hy with ⟨hy, e⟩ | ⟨hy, e⟩
    · have hzm : z.toNat % 128 = y := by omega
      have hor := rv_or acc z k ha0 hi.lt hz0 hz1 (by have := HX.out; rw [hzm]; omega)
      rw [hzm, hsum] at hor
      have hl := hi.last hy
      rw [show decide (z < 128) = true by simp; omega] at h8
      have HL := Lib.hid hl.2
      clear hsum hl hi HS hk7 e hzm
      go_wp2
      all_goals go_ret
      · have h1 : c = 1 := by assumption
        have h2 := HL.out
        rw [if_pos h1, h1] at h2
        exact ⟨_, _, _, rfl, rfl, h2⟩
      · have h1 : ¬ c = 1 := by assumption
        have h2 := HL.out
        rw [if_neg h1] at h2
        exact ⟨_, _, _, rfl, rfl, h2⟩
    · have hlt : acc.toNat + y % 128 * 2 ^ k < 4294967296 := by
        have := HX.out
        have : y % 128 * 2 ^ k ≤ y * 2 ^ k := Nat.mul_le_mul_right _ (by omega)
        omega
      have hzm : z.toNat % 128 = y % 128 := by omega
      have hor := rv_or acc z k ha0 hi.lt hz0 hz1 (by rw [hzm]; exact hlt)
      rw [hzm] at hor
      rw [show decide (z < 128) = false by simp; omega] at h8
      have HI := Lib.hid (hi.next HX.out hk7 hy)
      generalize hq : acc.toNat + y % 128 * 2 ^ k = q at *
      have HK := Lib.hid hk7
      clear hi e hsum hzm hk7 HS
      go_wp2
      go_round
      case rel => exact ⟨q, y / 128, k + 7, _, _, _, rfl, by go_num, rfl, by omega, by have := HK.out; omega, HI.out⟩
      case measure => show n - 1 < n; omega
end Go.Proofs.Ytmadidaiaggheaa
