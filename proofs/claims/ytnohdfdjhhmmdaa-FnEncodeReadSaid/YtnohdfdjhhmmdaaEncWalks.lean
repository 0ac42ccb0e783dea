/- The contract of bitconEncode: a walk for each period, sign and mode (written by wip/gen/enc.py). -/
import Derived.Test.YtnohdfdjhhmmdaaMadeWalks
import Derived.Test.YtnohdfdjhhmmdaaLogWalks
namespace Go.Proofs.Ytnohdfdjhhmmdaa
open Go.RowKit
set_option linter.unusedVariables false

/-- The code as the text reckons it: N's bit, the period, one less, one less than the mode, twice the period less 1, the places, the number of ones. -/
def encZ (nb p p1 m1 c sZ nZ : Int) : Int := bits .or .u32 (bits .or .u32 nb (bits .and .u32 (bits .and .u32 (p - sZ) p1) m1 * 65536 % 4294967296)) (bits .or .u32 (nZ - 1) (bits .andNot .u32 63 c) * 1024 % 4294967296)

set_option maxHeartbeats 1000000 in
theorem enc_64_p_64 (x a b low t : Nat) (hneg : decide (wrap64 (x : Int) < 0) = false) (hlow : bits .and .u64 (x : Int) (IntKind.u64.wrap (-(x : Int))) = (low : Int)) (ht : IntKind.u64.wrap ((x : Int) + (low : Int)) = (t : Int)) 
     (r1 : ((x : Int) != bits .or .u64 ((x : Int) / 4294967296) (IntKind.u64.wrap ((x : Int) * 4294967296))) = true)
    (hl0 : Hid (low ≠ 0)) (hll : Hid (low < 18446744073709551616)) (hla : Hid (low.log2 = a)) (ht0 : Hid (t ≠ 0)) (htl : Hid (t < 18446744073709551616)) (htb : Hid (t.log2 = b)) (ha : a < 64) (hab : a < b) (hb : b ≤ 63) (w : World) :
    Calls Try.prog 28 #[.int .u64 x, .int .i64 64] w fun e w' => e = .returned (.int .u32 (encZ 4194304 64 63 63 127 (a : Int) ((b : Int) - (a : Int)))) ∧ w = w' := by
  have hsg := u64_unsigned
  go_enter Try.func28, Try.ntmps28
  go_wp2_with fail
  refine (log2_any _ low rfl hl0.out hll.out _).mono ?_
  rw [hla.out]
  rintro e w' ⟨rfl, rfl⟩
  go_wp2_with fail
  refine (log2_any _ t rfl ht0.out htl.out _).mono ?_
  rw [htb.out]
  rintro e w' ⟨rfl, rfl⟩
  go_wp2_with fail
  go_ret
  exact ⟨ret_int rfl, rfl⟩

set_option maxHeartbeats 1000000 in
theorem enc_64_n_64 (x a b low t m : Nat) (hnot : bits .xor .u64 IntKind.u64.max (x : Int) = (m : Int)) (hneg : decide (wrap64 (x : Int) < 0) = true) (hlow : bits .and .u64 (m : Int) (IntKind.u64.wrap (-(m : Int))) = (low : Int)) (ht : IntKind.u64.wrap ((m : Int) + (low : Int)) = (t : Int)) 
     (r1 : ((x : Int) != bits .or .u64 ((x : Int) / 4294967296) (IntKind.u64.wrap ((x : Int) * 4294967296))) = true)
    (hl0 : Hid (low ≠ 0)) (hll : Hid (low < 18446744073709551616)) (hla : Hid (low.log2 = a)) (ht0 : Hid (t ≠ 0)) (htl : Hid (t < 18446744073709551616)) (htb : Hid (t.log2 = b)) (ha : a < 64) (hab : a < b) (hb : b ≤ 63) (w : World) :
    Calls Try.prog 28 #[.int .u64 x, .int .i64 64] w fun e w' => e = .returned (.int .u32 (encZ 4194304 64 63 63 127 (b : Int) (64 - ((b : Int) - (a : Int))))) ∧ w = w' := by
  have hsg := u64_unsigned
  go_enter Try.func28, Try.ntmps28
  go_wp2_with fail
  refine (log2_any _ low rfl hl0.out hll.out _).mono ?_
  rw [hla.out]
  rintro e w' ⟨rfl, rfl⟩
  go_wp2_with fail
  refine (log2_any _ t rfl ht0.out htl.out _).mono ?_
  rw [htb.out]
  rintro e w' ⟨rfl, rfl⟩
  go_wp2_with fail
  go_ret
  exact ⟨ret_int rfl, rfl⟩

set_option maxHeartbeats 1000000 in
theorem enc_32_p_64 (x s a b low t : Nat) (hf : IntKind.u64.wrap (wrap64 (wrap32 (x : Int))) = (s : Int)) (hneg : decide (wrap64 (s : Int) < 0) = false) (hlow : bits .and .u64 (s : Int) (IntKind.u64.wrap (-(s : Int))) = (low : Int)) (ht : IntKind.u64.wrap ((s : Int) + (low : Int)) = (t : Int)) 
    (r1 : ((x : Int) != bits .or .u64 ((x : Int) / 4294967296) (IntKind.u64.wrap ((x : Int) * 4294967296))) = false) (r2 : ((x : Int) != bits .or .u64 ((x : Int) / 65536) (IntKind.u64.wrap ((x : Int) * 281474976710656))) = true)
    (hl0 : Hid (low ≠ 0)) (hll : Hid (low < 18446744073709551616)) (hla : Hid (low.log2 = a)) (ht0 : Hid (t ≠ 0)) (htl : Hid (t < 18446744073709551616)) (htb : Hid (t.log2 = b)) (ha : a < 64) (hab : a < b) (hb : b ≤ 32) (w : World) :
    Calls Try.prog 28 #[.int .u64 x, .int .i64 64] w fun e w' => e = .returned (.int .u32 (encZ 0 32 31 63 63 (a : Int) ((b : Int) - (a : Int)))) ∧ w = w' := by
  have hsg := u64_unsigned
  go_enter Try.func28, Try.ntmps28
  go_wp2_with fail
  refine (log2_any _ low rfl hl0.out hll.out _).mono ?_
  rw [hla.out]
  rintro e w' ⟨rfl, rfl⟩
  go_wp2_with fail
  refine (log2_any _ t rfl ht0.out htl.out _).mono ?_
  rw [htb.out]
  rintro e w' ⟨rfl, rfl⟩
  go_wp2_with fail
  go_ret
  exact ⟨ret_int rfl, rfl⟩

set_option maxHeartbeats 1000000 in
theorem enc_32_p_32 (x s a b low t : Nat) (hf : IntKind.u64.wrap (wrap64 (wrap32 (x : Int))) = (s : Int)) (hneg : decide (wrap64 (s : Int) < 0) = false) (hlow : bits .and .u64 (s : Int) (IntKind.u64.wrap (-(s : Int))) = (low : Int)) (ht : IntKind.u64.wrap ((s : Int) + (low : Int)) = (t : Int)) (lo : Int) (hlo0 : 0 ≤ lo) (hlo1 : lo ≤ 4294967295) (hlo : bits .and .u64 (x : Int) 4294967295 = lo) (hx2 : bits .or .u64 (lo * 4294967296) lo = (x : Int)) 
    (r1 : ((x : Int) != bits .or .u64 ((x : Int) / 4294967296) (IntKind.u64.wrap ((x : Int) * 4294967296))) = false) (r2 : ((x : Int) != bits .or .u64 ((x : Int) / 65536) (IntKind.u64.wrap ((x : Int) * 281474976710656))) = true)
    (hl0 : Hid (low ≠ 0)) (hll : Hid (low < 18446744073709551616)) (hla : Hid (low.log2 = a)) (ht0 : Hid (t ≠ 0)) (htl : Hid (t < 18446744073709551616)) (htb : Hid (t.log2 = b)) (ha : a < 64) (hab : a < b) (hb : b ≤ 32) (w : World) :
    Calls Try.prog 28 #[.int .u64 x, .int .i64 32] w fun e w' => e = .returned (.int .u32 (encZ 0 32 31 31 63 (a : Int) ((b : Int) - (a : Int)))) ∧ w = w' := by
  have hsg := u64_unsigned
  go_enter Try.func28, Try.ntmps28
  go_wp2_with fail
  refine (log2_any _ low rfl hl0.out hll.out _).mono ?_
  rw [hla.out]
  rintro e w' ⟨rfl, rfl⟩
  go_wp2_with fail
  refine (log2_any _ t rfl ht0.out htl.out _).mono ?_
  rw [htb.out]
  rintro e w' ⟨rfl, rfl⟩
  go_wp2_with fail
  go_ret
  exact ⟨ret_int rfl, rfl⟩

set_option maxHeartbeats 1000000 in
theorem enc_32_n_64 (x s a b low t m : Nat) (hf : IntKind.u64.wrap (wrap64 (wrap32 (x : Int))) = (s : Int)) (hnot : bits .xor .u64 IntKind.u64.max (s : Int) = (m : Int)) (hneg : decide (wrap64 (s : Int) < 0) = true) (hlow : bits .and .u64 (m : Int) (IntKind.u64.wrap (-(m : Int))) = (low : Int)) (ht : IntKind.u64.wrap ((m : Int) + (low : Int)) = (t : Int)) 
    (r1 : ((x : Int) != bits .or .u64 ((x : Int) / 4294967296) (IntKind.u64.wrap ((x : Int) * 4294967296))) = false) (r2 : ((x : Int) != bits .or .u64 ((x : Int) / 65536) (IntKind.u64.wrap ((x : Int) * 281474976710656))) = true)
    (hl0 : Hid (low ≠ 0)) (hll : Hid (low < 18446744073709551616)) (hla : Hid (low.log2 = a)) (ht0 : Hid (t ≠ 0)) (htl : Hid (t < 18446744073709551616)) (htb : Hid (t.log2 = b)) (ha : a < 64) (hab : a < b) (hb : b ≤ 31) (w : World) :
    Calls Try.prog 28 #[.int .u64 x, .int .i64 64] w fun e w' => e = .returned (.int .u32 (encZ 0 32 31 63 63 (b : Int) (32 - ((b : Int) - (a : Int))))) ∧ w = w' := by
  have hsg := u64_unsigned
  go_enter Try.func28, Try.ntmps28
  go_wp2_with fail
  refine (log2_any _ low rfl hl0.out hll.out _).mono ?_
  rw [hla.out]
  rintro e w' ⟨rfl, rfl⟩
  go_wp2_with fail
  refine (log2_any _ t rfl ht0.out htl.out _).mono ?_
  rw [htb.out]
  rintro e w' ⟨rfl, rfl⟩
  go_wp2_with fail
  go_ret
  exact ⟨ret_int rfl, rfl⟩

set_option maxHeartbeats 1000000 in
theorem enc_32_n_32 (x s a b low t m : Nat) (hf : IntKind.u64.wrap (wrap64 (wrap32 (x : Int))) = (s : Int)) (hnot : bits .xor .u64 IntKind.u64.max (s : Int) = (m : Int)) (hneg : decide (wrap64 (s : Int) < 0) = true) (hlow : bits .and .u64 (m : Int) (IntKind.u64.wrap (-(m : Int))) = (low : Int)) (ht : IntKind.u64.wrap ((m : Int) + (low : Int)) = (t : Int)) (lo : Int) (hlo0 : 0 ≤ lo) (hlo1 : lo ≤ 4294967295) (hlo : bits .and .u64 (x : Int) 4294967295 = lo) (hx2 : bits .or .u64 (lo * 4294967296) lo = (x : Int)) 
    (r1 : ((x : Int) != bits .or .u64 ((x : Int) / 4294967296) (IntKind.u64.wrap ((x : Int) * 4294967296))) = false) (r2 : ((x : Int) != bits .or .u64 ((x : Int) / 65536) (IntKind.u64.wrap ((x : Int) * 281474976710656))) = true)
    (hl0 : Hid (low ≠ 0)) (hll : Hid (low < 18446744073709551616)) (hla : Hid (low.log2 = a)) (ht0 : Hid (t ≠ 0)) (htl : Hid (t < 18446744073709551616)) (htb : Hid (t.log2 = b)) (ha : a < 64) (hab : a < b) (hb : b ≤ 31) (w : World) :
    Calls Try.prog 28 #[.int .u64 x, .int .i64 32] w fun e w' => e = .returned (.int .u32 (encZ 0 32 31 31 63 (b : Int) (32 - ((b : Int) - (a : Int))))) ∧ w = w' := by
  have hsg := u64_unsigned
  go_enter Try.func28, Try.ntmps28
  go_wp2_with fail
  refine (log2_any _ low rfl hl0.out hll.out _).mono ?_
  rw [hla.out]
  rintro e w' ⟨rfl, rfl⟩
  go_wp2_with fail
  refine (log2_any _ t rfl ht0.out htl.out _).mono ?_
  rw [htb.out]
  rintro e w' ⟨rfl, rfl⟩
  go_wp2_with fail
  go_ret
  exact ⟨ret_int rfl, rfl⟩

set_option maxHeartbeats 1000000 in
theorem enc_16_p_64 (x s a b low t : Nat) (hf : IntKind.u64.wrap (wrap64 (IntKind.i16.wrap (x : Int))) = (s : Int)) (hneg : decide (wrap64 (s : Int) < 0) = false) (hlow : bits .and .u64 (s : Int) (IntKind.u64.wrap (-(s : Int))) = (low : Int)) (ht : IntKind.u64.wrap ((s : Int) + (low : Int)) = (t : Int)) 
    (r1 : ((x : Int) != bits .or .u64 ((x : Int) / 4294967296) (IntKind.u64.wrap ((x : Int) * 4294967296))) = false) (r2 : ((x : Int) != bits .or .u64 ((x : Int) / 65536) (IntKind.u64.wrap ((x : Int) * 281474976710656))) = false) (r3 : ((x : Int) != bits .or .u64 ((x : Int) / 256) (IntKind.u64.wrap ((x : Int) * 72057594037927936))) = true)
    (hl0 : Hid (low ≠ 0)) (hll : Hid (low < 18446744073709551616)) (hla : Hid (low.log2 = a)) (ht0 : Hid (t ≠ 0)) (htl : Hid (t < 18446744073709551616)) (htb : Hid (t.log2 = b)) (ha : a < 64) (hab : a < b) (hb : b ≤ 16) (w : World) :
    Calls Try.prog 28 #[.int .u64 x, .int .i64 64] w fun e w' => e = .returned (.int .u32 (encZ 0 16 15 63 31 (a : Int) ((b : Int) - (a : Int)))) ∧ w = w' := by
  have hsg := u64_unsigned
  go_enter Try.func28, Try.ntmps28
  go_wp2_with fail
  refine (log2_any _ low rfl hl0.out hll.out _).mono ?_
  rw [hla.out]
  rintro e w' ⟨rfl, rfl⟩
  go_wp2_with fail
  refine (log2_any _ t rfl ht0.out htl.out _).mono ?_
  rw [htb.out]
  rintro e w' ⟨rfl, rfl⟩
  go_wp2_with fail
  go_ret
  exact ⟨ret_int rfl, rfl⟩

set_option maxHeartbeats 1000000 in
theorem enc_16_p_32 (x s a b low t : Nat) (hf : IntKind.u64.wrap (wrap64 (IntKind.i16.wrap (x : Int))) = (s : Int)) (hneg : decide (wrap64 (s : Int) < 0) = false) (hlow : bits .and .u64 (s : Int) (IntKind.u64.wrap (-(s : Int))) = (low : Int)) (ht : IntKind.u64.wrap ((s : Int) + (low : Int)) = (t : Int)) (lo : Int) (hlo0 : 0 ≤ lo) (hlo1 : lo ≤ 4294967295) (hlo : bits .and .u64 (x : Int) 4294967295 = lo) (hx2 : bits .or .u64 (lo * 4294967296) lo = (x : Int)) 
    (r1 : ((x : Int) != bits .or .u64 ((x : Int) / 4294967296) (IntKind.u64.wrap ((x : Int) * 4294967296))) = false) (r2 : ((x : Int) != bits .or .u64 ((x : Int) / 65536) (IntKind.u64.wrap ((x : Int) * 281474976710656))) = false) (r3 : ((x : Int) != bits .or .u64 ((x : Int) / 256) (IntKind.u64.wrap ((x : Int) * 72057594037927936))) = true)
    (hl0 : Hid (low ≠ 0)) (hll : Hid (low < 18446744073709551616)) (hla : Hid (low.log2 = a)) (ht0 : Hid (t ≠ 0)) (htl : Hid (t < 18446744073709551616)) (htb : Hid (t.log2 = b)) (ha : a < 64) (hab : a < b) (hb : b ≤ 16) (w : World) :
    Calls Try.prog 28 #[.int .u64 x, .int .i64 32] w fun e w' => e = .returned (.int .u32 (encZ 0 16 15 31 31 (a : Int) ((b : Int) - (a : Int)))) ∧ w = w' := by
  have hsg := u64_unsigned
  go_enter Try.func28, Try.ntmps28
  go_wp2_with fail
  refine (log2_any _ low rfl hl0.out hll.out _).mono ?_
  rw [hla.out]
  rintro e w' ⟨rfl, rfl⟩
  go_wp2_with fail
  refine (log2_any _ t rfl ht0.out htl.out _).mono ?_
  rw [htb.out]
  rintro e w' ⟨rfl, rfl⟩
  go_wp2_with fail
  go_ret
  exact ⟨ret_int rfl, rfl⟩

set_option maxHeartbeats 1000000 in
theorem enc_16_n_64 (x s a b low t m : Nat) (hf : IntKind.u64.wrap (wrap64 (IntKind.i16.wrap (x : Int))) = (s : Int)) (hnot : bits .xor .u64 IntKind.u64.max (s : Int) = (m : Int)) (hneg : decide (wrap64 (s : Int) < 0) = true) (hlow : bits .and .u64 (m : Int) (IntKind.u64.wrap (-(m : Int))) = (low : Int)) (ht : IntKind.u64.wrap ((m : Int) + (low : Int)) = (t : Int)) 
    (r1 : ((x : Int) != bits .or .u64 ((x : Int) / 4294967296) (IntKind.u64.wrap ((x : Int) * 4294967296))) = false) (r2 : ((x : Int) != bits .or .u64 ((x : Int) / 65536) (IntKind.u64.wrap ((x : Int) * 281474976710656))) = false) (r3 : ((x : Int) != bits .or .u64 ((x : Int) / 256) (IntKind.u64.wrap ((x : Int) * 72057594037927936))) = true)
    (hl0 : Hid (low ≠ 0)) (hll : Hid (low < 18446744073709551616)) (hla : Hid (low.log2 = a)) (ht0 : Hid (t ≠ 0)) (htl : Hid (t < 18446744073709551616)) (htb : Hid (t.log2 = b)) (ha : a < 64) (hab : a < b) (hb : b ≤ 15) (w : World) :
    Calls Try.prog 28 #[.int .u64 x, .int .i64 64] w fun e w' => e = .returned (.int .u32 (encZ 0 16 15 63 31 (b : Int) (16 - ((b : Int) - (a : Int))))) ∧ w = w' := by
  have hsg := u64_unsigned
  go_enter Try.func28, Try.ntmps28
  go_wp2_with fail
  refine (log2_any _ low rfl hl0.out hll.out _).mono ?_
  rw [hla.out]
  rintro e w' ⟨rfl, rfl⟩
  go_wp2_with fail
  refine (log2_any _ t rfl ht0.out htl.out _).mono ?_
  rw [htb.out]
  rintro e w' ⟨rfl, rfl⟩
  go_wp2_with fail
  go_ret
  exact ⟨ret_int rfl, rfl⟩

set_option maxHeartbeats 1000000 in
theorem enc_16_n_32 (x s a b low t m : Nat) (hf : IntKind.u64.wrap (wrap64 (IntKind.i16.wrap (x : Int))) = (s : Int)) (hnot : bits .xor .u64 IntKind.u64.max (s : Int) = (m : Int)) (hneg : decide (wrap64 (s : Int) < 0) = true) (hlow : bits .and .u64 (m : Int) (IntKind.u64.wrap (-(m : Int))) = (low : Int)) (ht : IntKind.u64.wrap ((m : Int) + (low : Int)) = (t : Int)) (lo : Int) (hlo0 : 0 ≤ lo) (hlo1 : lo ≤ 4294967295) (hlo : bits .and .u64 (x : Int) 4294967295 = lo) (hx2 : bits .or .u64 (lo * 4294967296) lo = (x : Int)) 
    (r1 : ((x : Int) != bits .or .u64 ((x : Int) / 4294967296) (IntKind.u64.wrap ((x : Int) * 4294967296))) = false) (r2 : ((x : Int) != bits .or .u64 ((x : Int) / 65536) (IntKind.u64.wrap ((x : Int) * 281474976710656))) = false) (r3 : ((x : Int) != bits .or .u64 ((x : Int) / 256) (IntKind.u64.wrap ((x : Int) * 72057594037927936))) = true)
    (hl0 : Hid (low ≠ 0)) (hll : Hid (low < 18446744073709551616)) (hla : Hid (low.log2 = a)) (ht0 : Hid (t ≠ 0)) (htl : Hid (t < 18446744073709551616)) (htb : Hid (t.log2 = b)) (ha : a < 64) (hab : a < b) (hb : b ≤ 15) (w : World) :
    Calls Try.prog 28 #[.int .u64 x, .int .i64 32] w fun e w' => e = .returned (.int .u32 (encZ 0 16 15 31 31 (b : Int) (16 - ((b : Int) - (a : Int))))) ∧ w = w' := by
  have hsg := u64_unsigned
  go_enter Try.func28, Try.ntmps28
  go_wp2_with fail
  refine (log2_any _ low rfl hl0.out hll.out _).mono ?_
  rw [hla.out]
  rintro e w' ⟨rfl, rfl⟩
  go_wp2_with fail
  refine (log2_any _ t rfl ht0.out htl.out _).mono ?_
  rw [htb.out]
  rintro e w' ⟨rfl, rfl⟩
  go_wp2_with fail
  go_ret
  exact ⟨ret_int rfl, rfl⟩

set_option maxHeartbeats 1000000 in
theorem enc_8_p_64 (x s a b low t : Nat) (hf : IntKind.u64.wrap (wrap64 (IntKind.i8.wrap (x : Int))) = (s : Int)) (hneg : decide (wrap64 (s : Int) < 0) = false) (hlow : bits .and .u64 (s : Int) (IntKind.u64.wrap (-(s : Int))) = (low : Int)) (ht : IntKind.u64.wrap ((s : Int) + (low : Int)) = (t : Int)) 
    (r1 : ((x : Int) != bits .or .u64 ((x : Int) / 4294967296) (IntKind.u64.wrap ((x : Int) * 4294967296))) = false) (r2 : ((x : Int) != bits .or .u64 ((x : Int) / 65536) (IntKind.u64.wrap ((x : Int) * 281474976710656))) = false) (r3 : ((x : Int) != bits .or .u64 ((x : Int) / 256) (IntKind.u64.wrap ((x : Int) * 72057594037927936))) = false) (r4 : ((x : Int) != bits .or .u64 ((x : Int) / 16) (IntKind.u64.wrap ((x : Int) * 1152921504606846976))) = true)
    (hl0 : Hid (low ≠ 0)) (hll : Hid (low < 18446744073709551616)) (hla : Hid (low.log2 = a)) (ht0 : Hid (t ≠ 0)) (htl : Hid (t < 18446744073709551616)) (htb : Hid (t.log2 = b)) (ha : a < 64) (hab : a < b) (hb : b ≤ 8) (w : World) :
    Calls Try.prog 28 #[.int .u64 x, .int .i64 64] w fun e w' => e = .returned (.int .u32 (encZ 0 8 7 63 15 (a : Int) ((b : Int) - (a : Int)))) ∧ w = w' := by
  have hsg := u64_unsigned
  go_enter Try.func28, Try.ntmps28
  go_wp2_with fail
  refine (log2_any _ low rfl hl0.out hll.out _).mono ?_
  rw [hla.out]
  rintro e w' ⟨rfl, rfl⟩
  go_wp2_with fail
  refine (log2_any _ t rfl ht0.out htl.out _).mono ?_
  rw [htb.out]
  rintro e w' ⟨rfl, rfl⟩
  go_wp2_with fail
  go_ret
  exact ⟨ret_int rfl, rfl⟩

set_option maxHeartbeats 1000000 in
theorem enc_8_p_32 (x s a b low t : Nat) (hf : IntKind.u64.wrap (wrap64 (IntKind.i8.wrap (x : Int))) = (s : Int)) (hneg : decide (wrap64 (s : Int) < 0) = false) (hlow : bits .and .u64 (s : Int) (IntKind.u64.wrap (-(s : Int))) = (low : Int)) (ht : IntKind.u64.wrap ((s : Int) + (low : Int)) = (t : Int)) (lo : Int) (hlo0 : 0 ≤ lo) (hlo1 : lo ≤ 4294967295) (hlo : bits .and .u64 (x : Int) 4294967295 = lo) (hx2 : bits .or .u64 (lo * 4294967296) lo = (x : Int)) 
    (r1 : ((x : Int) != bits .or .u64 ((x : Int) / 4294967296) (IntKind.u64.wrap ((x : Int) * 4294967296))) = false) (r2 : ((x : Int) != bits .or .u64 ((x : Int) / 65536) (IntKind.u64.wrap ((x : Int) * 281474976710656))) = false) (r3 : ((x : Int) != bits .or .u64 ((x : Int) / 256) (IntKind.u64.wrap ((x : Int) * 72057594037927936))) = false) (r4 : ((x : Int) != bits .or .u64 ((x : Int) / 16) (IntKind.u64.wrap ((x : Int) * 1152921504606846976))) = true)
    (hl0 : Hid (low ≠ 0)) (hll : Hid (low < 18446744073709551616)) (hla : Hid (low.log2 = a)) (ht0 : Hid (t ≠ 0)) (htl : Hid (t < 18446744073709551616)) (htb : Hid (t.log2 = b)) (ha : a < 64) (hab : a < b) (hb : b ≤ 8) (w : World) :
    Calls Try.prog 28 #[.int .u64 x, .int .i64 32] w fun e w' => e = .returned (.int .u32 (encZ 0 8 7 31 15 (a : Int) ((b : Int) - (a : Int)))) ∧ w = w' := by
  have hsg := u64_unsigned
  go_enter Try.func28, Try.ntmps28
  go_wp2_with fail
  refine (log2_any _ low rfl hl0.out hll.out _).mono ?_
  rw [hla.out]
  rintro e w' ⟨rfl, rfl⟩
  go_wp2_with fail
  refine (log2_any _ t rfl ht0.out htl.out _).mono ?_
  rw [htb.out]
  rintro e w' ⟨rfl, rfl⟩
  go_wp2_with fail
  go_ret
  exact ⟨ret_int rfl, rfl⟩

set_option maxHeartbeats 1000000 in
theorem enc_8_n_64 (x s a b low t m : Nat) (hf : IntKind.u64.wrap (wrap64 (IntKind.i8.wrap (x : Int))) = (s : Int)) (hnot : bits .xor .u64 IntKind.u64.max (s : Int) = (m : Int)) (hneg : decide (wrap64 (s : Int) < 0) = true) (hlow : bits .and .u64 (m : Int) (IntKind.u64.wrap (-(m : Int))) = (low : Int)) (ht : IntKind.u64.wrap ((m : Int) + (low : Int)) = (t : Int)) 
    (r1 : ((x : Int) != bits .or .u64 ((x : Int) / 4294967296) (IntKind.u64.wrap ((x : Int) * 4294967296))) = false) (r2 : ((x : Int) != bits .or .u64 ((x : Int) / 65536) (IntKind.u64.wrap ((x : Int) * 281474976710656))) = false) (r3 : ((x : Int) != bits .or .u64 ((x : Int) / 256) (IntKind.u64.wrap ((x : Int) * 72057594037927936))) = false) (r4 : ((x : Int) != bits .or .u64 ((x : Int) / 16) (IntKind.u64.wrap ((x : Int) * 1152921504606846976))) = true)
    (hl0 : Hid (low ≠ 0)) (hll : Hid (low < 18446744073709551616)) (hla : Hid (low.log2 = a)) (ht0 : Hid (t ≠ 0)) (htl : Hid (t < 18446744073709551616)) (htb : Hid (t.log2 = b)) (ha : a < 64) (hab : a < b) (hb : b ≤ 7) (w : World) :
    Calls Try.prog 28 #[.int .u64 x, .int .i64 64] w fun e w' => e = .returned (.int .u32 (encZ 0 8 7 63 15 (b : Int) (8 - ((b : Int) - (a : Int))))) ∧ w = w' := by
  have hsg := u64_unsigned
  go_enter Try.func28, Try.ntmps28
  go_wp2_with fail
  refine (log2_any _ low rfl hl0.out hll.out _).mono ?_
  rw [hla.out]
  rintro e w' ⟨rfl, rfl⟩
  go_wp2_with fail
  refine (log2_any _ t rfl ht0.out htl.out _).mono ?_
  rw [htb.out]
  rintro e w' ⟨rfl, rfl⟩
  go_wp2_with fail
  go_ret
  exact ⟨ret_int rfl, rfl⟩

set_option maxHeartbeats 1000000 in
theorem enc_8_n_32 (x s a b low t m : Nat) (hf : IntKind.u64.wrap (wrap64 (IntKind.i8.wrap (x : Int))) = (s : Int)) (hnot : bits .xor .u64 IntKind.u64.max (s : Int) = (m : Int)) (hneg : decide (wrap64 (s : Int) < 0) = true) (hlow : bits .and .u64 (m : Int) (IntKind.u64.wrap (-(m : Int))) = (low : Int)) (ht : IntKind.u64.wrap ((m : Int) + (low : Int)) = (t : Int)) (lo : Int) (hlo0 : 0 ≤ lo) (hlo1 : lo ≤ 4294967295) (hlo : bits .and .u64 (x : Int) 4294967295 = lo) (hx2 : bits .or .u64 (lo * 4294967296) lo = (x : Int)) 
    (r1 : ((x : Int) != bits .or .u64 ((x : Int) / 4294967296) (IntKind.u64.wrap ((x : Int) * 4294967296))) = false) (r2 : ((x : Int) != bits .or .u64 ((x : Int) / 65536) (IntKind.u64.wrap ((x : Int) * 281474976710656))) = false) (r3 : ((x : Int) != bits .or .u64 ((x : Int) / 256) (IntKind.u64.wrap ((x : Int) * 72057594037927936))) = false) (r4 : ((x : Int) != bits .or .u64 ((x : Int) / 16) (IntKind.u64.wrap ((x : Int) * 1152921504606846976))) = true)
    (hl0 : Hid (low ≠ 0)) (hll : Hid (low < 18446744073709551616)) (hla : Hid (low.log2 = a)) (ht0 : Hid (t ≠ 0)) (htl : Hid (t < 18446744073709551616)) (htb : Hid (t.log2 = b)) (ha : a < 64) (hab : a < b) (hb : b ≤ 7) (w : World) :
    Calls Try.prog 28 #[.int .u64 x, .int .i64 32] w fun e w' => e = .returned (.int .u32 (encZ 0 8 7 31 15 (b : Int) (8 - ((b : Int) - (a : Int))))) ∧ w = w' := by
  have hsg := u64_unsigned
  go_enter Try.func28, Try.ntmps28
  go_wp2_with fail
  refine (log2_any _ low rfl hl0.out hll.out _).mono ?_
  rw [hla.out]
  rintro e w' ⟨rfl, rfl⟩
  go_wp2_with fail
  refine (log2_any _ t rfl ht0.out htl.out _).mono ?_
  rw [htb.out]
  rintro e w' ⟨rfl, rfl⟩
  go_wp2_with fail
  go_ret
  exact ⟨ret_int rfl, rfl⟩

set_option maxHeartbeats 1000000 in
theorem enc_4_p_64 (x s a b low t : Nat) (hf : IntKind.u64.wrap (wrap64 (IntKind.u64.wrap ((x : Int) * 1152921504606846976)) / 1152921504606846976) = (s : Int)) (hneg : decide (wrap64 (s : Int) < 0) = false) (hlow : bits .and .u64 (s : Int) (IntKind.u64.wrap (-(s : Int))) = (low : Int)) (ht : IntKind.u64.wrap ((s : Int) + (low : Int)) = (t : Int)) 
    (r1 : ((x : Int) != bits .or .u64 ((x : Int) / 4294967296) (IntKind.u64.wrap ((x : Int) * 4294967296))) = false) (r2 : ((x : Int) != bits .or .u64 ((x : Int) / 65536) (IntKind.u64.wrap ((x : Int) * 281474976710656))) = false) (r3 : ((x : Int) != bits .or .u64 ((x : Int) / 256) (IntKind.u64.wrap ((x : Int) * 72057594037927936))) = false) (r4 : ((x : Int) != bits .or .u64 ((x : Int) / 16) (IntKind.u64.wrap ((x : Int) * 1152921504606846976))) = false) (r5 : ((x : Int) != bits .or .u64 ((x : Int) / 4) (IntKind.u64.wrap ((x : Int) * 4611686018427387904))) = true)
    (hl0 : Hid (low ≠ 0)) (hll : Hid (low < 18446744073709551616)) (hla : Hid (low.log2 = a)) (ht0 : Hid (t ≠ 0)) (htl : Hid (t < 18446744073709551616)) (htb : Hid (t.log2 = b)) (ha : a < 64) (hab : a < b) (hb : b ≤ 4) (w : World) :
    Calls Try.prog 28 #[.int .u64 x, .int .i64 64] w fun e w' => e = .returned (.int .u32 (encZ 0 4 3 63 7 (a : Int) ((b : Int) - (a : Int)))) ∧ w = w' := by
  have hsg := u64_unsigned
  go_enter Try.func28, Try.ntmps28
  go_wp2_with fail
  refine (log2_any _ low rfl hl0.out hll.out _).mono ?_
  rw [hla.out]
  rintro e w' ⟨rfl, rfl⟩
  go_wp2_with fail
  refine (log2_any _ t rfl ht0.out htl.out _).mono ?_
  rw [htb.out]
  rintro e w' ⟨rfl, rfl⟩
  go_wp2_with fail
  go_ret
  exact ⟨ret_int rfl, rfl⟩

set_option maxHeartbeats 1000000 in
theorem enc_4_p_32 (x s a b low t : Nat) (hf : IntKind.u64.wrap (wrap64 (IntKind.u64.wrap ((x : Int) * 1152921504606846976)) / 1152921504606846976) = (s : Int)) (hneg : decide (wrap64 (s : Int) < 0) = false) (hlow : bits .and .u64 (s : Int) (IntKind.u64.wrap (-(s : Int))) = (low : Int)) (ht : IntKind.u64.wrap ((s : Int) + (low : Int)) = (t : Int)) (lo : Int) (hlo0 : 0 ≤ lo) (hlo1 : lo ≤ 4294967295) (hlo : bits .and .u64 (x : Int) 4294967295 = lo) (hx2 : bits .or .u64 (lo * 4294967296) lo = (x : Int)) 
    (r1 : ((x : Int) != bits .or .u64 ((x : Int) / 4294967296) (IntKind.u64.wrap ((x : Int) * 4294967296))) = false) (r2 : ((x : Int) != bits .or .u64 ((x : Int) / 65536) (IntKind.u64.wrap ((x : Int) * 281474976710656))) = false) (r3 : ((x : Int) != bits .or .u64 ((x : Int) / 256) (IntKind.u64.wrap ((x : Int) * 72057594037927936))) = false) (r4 : ((x : Int) != bits .or .u64 ((x : Int) / 16) (IntKind.u64.wrap ((x : Int) * 1152921504606846976))) = false) (r5 : ((x : Int) != bits .or .u64 ((x : Int) / 4) (IntKind.u64.wrap ((x : Int) * 4611686018427387904))) = true)
    (hl0 : Hid (low ≠ 0)) (hll : Hid (low < 18446744073709551616)) (hla : Hid (low.log2 = a)) (ht0 : Hid (t ≠ 0)) (htl : Hid (t < 18446744073709551616)) (htb : Hid (t.log2 = b)) (ha : a < 64) (hab : a < b) (hb : b ≤ 4) (w : World) :
    Calls Try.prog 28 #[.int .u64 x, .int .i64 32] w fun e w' => e = .returned (.int .u32 (encZ 0 4 3 31 7 (a : Int) ((b : Int) - (a : Int)))) ∧ w = w' := by
  have hsg := u64_unsigned
  go_enter Try.func28, Try.ntmps28
  go_wp2_with fail
  refine (log2_any _ low rfl hl0.out hll.out _).mono ?_
  rw [hla.out]
  rintro e w' ⟨rfl, rfl⟩
  go_wp2_with fail
  refine (log2_any _ t rfl ht0.out htl.out _).mono ?_
  rw [htb.out]
  rintro e w' ⟨rfl, rfl⟩
  go_wp2_with fail
  go_ret
  exact ⟨ret_int rfl, rfl⟩

set_option maxHeartbeats 1000000 in
theorem enc_4_n_64 (x s a b low t m : Nat) (hf : IntKind.u64.wrap (wrap64 (IntKind.u64.wrap ((x : Int) * 1152921504606846976)) / 1152921504606846976) = (s : Int)) (hnot : bits .xor .u64 IntKind.u64.max (s : Int) = (m : Int)) (hneg : decide (wrap64 (s : Int) < 0) = true) (hlow : bits .and .u64 (m : Int) (IntKind.u64.wrap (-(m : Int))) = (low : Int)) (ht : IntKind.u64.wrap ((m : Int) + (low : Int)) = (t : Int)) 
    (r1 : ((x : Int) != bits .or .u64 ((x : Int) / 4294967296) (IntKind.u64.wrap ((x : Int) * 4294967296))) = false) (r2 : ((x : Int) != bits .or .u64 ((x : Int) / 65536) (IntKind.u64.wrap ((x : Int) * 281474976710656))) = false) (r3 : ((x : Int) != bits .or .u64 ((x : Int) / 256) (IntKind.u64.wrap ((x : Int) * 72057594037927936))) = false) (r4 : ((x : Int) != bits .or .u64 ((x : Int) / 16) (IntKind.u64.wrap ((x : Int) * 1152921504606846976))) = false) (r5 : ((x : Int) != bits .or .u64 ((x : Int) / 4) (IntKind.u64.wrap ((x : Int) * 4611686018427387904))) = true)
    (hl0 : Hid (low ≠ 0)) (hll : Hid (low < 18446744073709551616)) (hla : Hid (low.log2 = a)) (ht0 : Hid (t ≠ 0)) (htl : Hid (t < 18446744073709551616)) (htb : Hid (t.log2 = b)) (ha : a < 64) (hab : a < b) (hb : b ≤ 3) (w : World) :
    Calls Try.prog 28 #[.int .u64 x, .int .i64 64] w fun e w' => e = .returned (.int .u32 (encZ 0 4 3 63 7 (b : Int) (4 - ((b : Int) - (a : Int))))) ∧ w = w' := by
  have hsg := u64_unsigned
  go_enter Try.func28, Try.ntmps28
  go_wp2_with fail
  refine (log2_any _ low rfl hl0.out hll.out _).mono ?_
  rw [hla.out]
  rintro e w' ⟨rfl, rfl⟩
  go_wp2_with fail
  refine (log2_any _ t rfl ht0.out htl.out _).mono ?_
  rw [htb.out]
  rintro e w' ⟨rfl, rfl⟩
  go_wp2_with fail
  go_ret
  exact ⟨ret_int rfl, rfl⟩

set_option maxHeartbeats 1000000 in
theorem enc_4_n_32 (x s a b low t m : Nat) (hf : IntKind.u64.wrap (wrap64 (IntKind.u64.wrap ((x : Int) * 1152921504606846976)) / 1152921504606846976) = (s : Int)) (hnot : bits .xor .u64 IntKind.u64.max (s : Int) = (m : Int)) (hneg : decide (wrap64 (s : Int) < 0) = true) (hlow : bits .and .u64 (m : Int) (IntKind.u64.wrap (-(m : Int))) = (low : Int)) (ht : IntKind.u64.wrap ((m : Int) + (low : Int)) = (t : Int)) (lo : Int) (hlo0 : 0 ≤ lo) (hlo1 : lo ≤ 4294967295) (hlo : bits .and .u64 (x : Int) 4294967295 = lo) (hx2 : bits .or .u64 (lo * 4294967296) lo = (x : Int)) 
    (r1 : ((x : Int) != bits .or .u64 ((x : Int) / 4294967296) (IntKind.u64.wrap ((x : Int) * 4294967296))) = false) (r2 : ((x : Int) != bits .or .u64 ((x : Int) / 65536) (IntKind.u64.wrap ((x : Int) * 281474976710656))) = false) (r3 : ((x : Int) != bits .or .u64 ((x : Int) / 256) (IntKind.u64.wrap ((x : Int) * 72057594037927936))) = false) (r4 : ((x : Int) != bits .or .u64 ((x : Int) / 16) (IntKind.u64.wrap ((x : Int) * 1152921504606846976))) = false) (r5 : ((x : Int) != bits .or .u64 ((x : Int) / 4) (IntKind.u64.wrap ((x : Int) * 4611686018427387904))) = true)
    (hl0 : Hid (low ≠ 0)) (hll : Hid (low < 18446744073709551616)) (hla : Hid (low.log2 = a)) (ht0 : Hid (t ≠ 0)) (htl : Hid (t < 18446744073709551616)) (htb : Hid (t.log2 = b)) (ha : a < 64) (hab : a < b) (hb : b ≤ 3) (w : World) :
    Calls Try.prog 28 #[.int .u64 x, .int .i64 32] w fun e w' => e = .returned (.int .u32 (encZ 0 4 3 31 7 (b : Int) (4 - ((b : Int) - (a : Int))))) ∧ w = w' := by
  have hsg := u64_unsigned
  go_enter Try.func28, Try.ntmps28
  go_wp2_with fail
  refine (log2_any _ low rfl hl0.out hll.out _).mono ?_
  rw [hla.out]
  rintro e w' ⟨rfl, rfl⟩
  go_wp2_with fail
  refine (log2_any _ t rfl ht0.out htl.out _).mono ?_
  rw [htb.out]
  rintro e w' ⟨rfl, rfl⟩
  go_wp2_with fail
  go_ret
  exact ⟨ret_int rfl, rfl⟩

set_option maxHeartbeats 1000000 in
theorem enc_2_p_64 (x s a b low t : Nat) (hf : IntKind.u64.wrap (wrap64 (IntKind.u64.wrap ((x : Int) * 4611686018427387904)) / 4611686018427387904) = (s : Int)) (hneg : decide (wrap64 (s : Int) < 0) = false) (hlow : bits .and .u64 (s : Int) (IntKind.u64.wrap (-(s : Int))) = (low : Int)) (ht : IntKind.u64.wrap ((s : Int) + (low : Int)) = (t : Int)) 
    (r1 : ((x : Int) != bits .or .u64 ((x : Int) / 4294967296) (IntKind.u64.wrap ((x : Int) * 4294967296))) = false) (r2 : ((x : Int) != bits .or .u64 ((x : Int) / 65536) (IntKind.u64.wrap ((x : Int) * 281474976710656))) = false) (r3 : ((x : Int) != bits .or .u64 ((x : Int) / 256) (IntKind.u64.wrap ((x : Int) * 72057594037927936))) = false) (r4 : ((x : Int) != bits .or .u64 ((x : Int) / 16) (IntKind.u64.wrap ((x : Int) * 1152921504606846976))) = false) (r5 : ((x : Int) != bits .or .u64 ((x : Int) / 4) (IntKind.u64.wrap ((x : Int) * 4611686018427387904))) = false)
    (hl0 : Hid (low ≠ 0)) (hll : Hid (low < 18446744073709551616)) (hla : Hid (low.log2 = a)) (ht0 : Hid (t ≠ 0)) (htl : Hid (t < 18446744073709551616)) (htb : Hid (t.log2 = b)) (ha : a < 64) (hab : a < b) (hb : b ≤ 2) (w : World) :
    Calls Try.prog 28 #[.int .u64 x, .int .i64 64] w fun e w' => e = .returned (.int .u32 (encZ 0 2 1 63 3 (a : Int) ((b : Int) - (a : Int)))) ∧ w = w' := by
  have hsg := u64_unsigned
  go_enter Try.func28, Try.ntmps28
  go_wp2_with fail
  refine (log2_any _ low rfl hl0.out hll.out _).mono ?_
  rw [hla.out]
  rintro e w' ⟨rfl, rfl⟩
  go_wp2_with fail
  refine (log2_any _ t rfl ht0.out htl.out _).mono ?_
  rw [htb.out]
  rintro e w' ⟨rfl, rfl⟩
  go_wp2_with fail
  go_ret
  exact ⟨ret_int rfl, rfl⟩

set_option maxHeartbeats 1000000 in
theorem enc_2_p_32 (x s a b low t : Nat) (hf : IntKind.u64.wrap (wrap64 (IntKind.u64.wrap ((x : Int) * 4611686018427387904)) / 4611686018427387904) = (s : Int)) (hneg : decide (wrap64 (s : Int) < 0) = false) (hlow : bits .and .u64 (s : Int) (IntKind.u64.wrap (-(s : Int))) = (low : Int)) (ht : IntKind.u64.wrap ((s : Int) + (low : Int)) = (t : Int)) (lo : Int) (hlo0 : 0 ≤ lo) (hlo1 : lo ≤ 4294967295) (hlo : bits .and .u64 (x : Int) 4294967295 = lo) (hx2 : bits .or .u64 (lo * 4294967296) lo = (x : Int)) 
    (r1 : ((x : Int) != bits .or .u64 ((x : Int) / 4294967296) (IntKind.u64.wrap ((x : Int) * 4294967296))) = false) (r2 : ((x : Int) != bits .or .u64 ((x : Int) / 65536) (IntKind.u64.wrap ((x : Int) * 281474976710656))) = false) (r3 : ((x : Int) != bits .or .u64 ((x : Int) / 256) (IntKind.u64.wrap ((x : Int) * 72057594037927936))) = false) (r4 : ((x : Int) != bits .or .u64 ((x : Int) / 16) (IntKind.u64.wrap ((x : Int) * 1152921504606846976))) = false) (r5 : ((x : Int) != bits .or .u64 ((x : Int) / 4) (IntKind.u64.wrap ((x : Int) * 4611686018427387904))) = false)
    (hl0 : Hid (low ≠ 0)) (hll : Hid (low < 18446744073709551616)) (hla : Hid (low.log2 = a)) (ht0 : Hid (t ≠ 0)) (htl : Hid (t < 18446744073709551616)) (htb : Hid (t.log2 = b)) (ha : a < 64) (hab : a < b) (hb : b ≤ 2) (w : World) :
    Calls Try.prog 28 #[.int .u64 x, .int .i64 32] w fun e w' => e = .returned (.int .u32 (encZ 0 2 1 31 3 (a : Int) ((b : Int) - (a : Int)))) ∧ w = w' := by
  have hsg := u64_unsigned
  go_enter Try.func28, Try.ntmps28
  go_wp2_with fail
  refine (log2_any _ low rfl hl0.out hll.out _).mono ?_
  rw [hla.out]
  rintro e w' ⟨rfl, rfl⟩
  go_wp2_with fail
  refine (log2_any _ t rfl ht0.out htl.out _).mono ?_
  rw [htb.out]
  rintro e w' ⟨rfl, rfl⟩
  go_wp2_with fail
  go_ret
  exact ⟨ret_int rfl, rfl⟩

set_option maxHeartbeats 1000000 in
theorem enc_2_n_64 (x s a b low t m : Nat) (hf : IntKind.u64.wrap (wrap64 (IntKind.u64.wrap ((x : Int) * 4611686018427387904)) / 4611686018427387904) = (s : Int)) (hnot : bits .xor .u64 IntKind.u64.max (s : Int) = (m : Int)) (hneg : decide (wrap64 (s : Int) < 0) = true) (hlow : bits .and .u64 (m : Int) (IntKind.u64.wrap (-(m : Int))) = (low : Int)) (ht : IntKind.u64.wrap ((m : Int) + (low : Int)) = (t : Int)) 
    (r1 : ((x : Int) != bits .or .u64 ((x : Int) / 4294967296) (IntKind.u64.wrap ((x : Int) * 4294967296))) = false) (r2 : ((x : Int) != bits .or .u64 ((x : Int) / 65536) (IntKind.u64.wrap ((x : Int) * 281474976710656))) = false) (r3 : ((x : Int) != bits .or .u64 ((x : Int) / 256) (IntKind.u64.wrap ((x : Int) * 72057594037927936))) = false) (r4 : ((x : Int) != bits .or .u64 ((x : Int) / 16) (IntKind.u64.wrap ((x : Int) * 1152921504606846976))) = false) (r5 : ((x : Int) != bits .or .u64 ((x : Int) / 4) (IntKind.u64.wrap ((x : Int) * 4611686018427387904))) = false)
    (hl0 : Hid (low ≠ 0)) (hll : Hid (low < 18446744073709551616)) (hla : Hid (low.log2 = a)) (ht0 : Hid (t ≠ 0)) (htl : Hid (t < 18446744073709551616)) (htb : Hid (t.log2 = b)) (ha : a < 64) (hab : a < b) (hb : b ≤ 1) (w : World) :
    Calls Try.prog 28 #[.int .u64 x, .int .i64 64] w fun e w' => e = .returned (.int .u32 (encZ 0 2 1 63 3 (b : Int) (2 - ((b : Int) - (a : Int))))) ∧ w = w' := by
  have hsg := u64_unsigned
  go_enter Try.func28, Try.ntmps28
  go_wp2_with fail
  refine (log2_any _ low rfl hl0.out hll.out _).mono ?_
  rw [hla.out]
  rintro e w' ⟨rfl, rfl⟩
  go_wp2_with fail
  refine (log2_any _ t rfl ht0.out htl.out _).mono ?_
  rw [htb.out]
  rintro e w' ⟨rfl, rfl⟩
  go_wp2_with fail
  go_ret
  exact ⟨ret_int rfl, rfl⟩

set_option maxHeartbeats 1000000 in
theorem enc_2_n_32 (x s a b low t m : Nat) (hf : IntKind.u64.wrap (wrap64 (IntKind.u64.wrap ((x : Int) * 4611686018427387904)) / 4611686018427387904) = (s : Int)) (hnot : bits .xor .u64 IntKind.u64.max (s : Int) = (m : Int)) (hneg : decide (wrap64 (s : Int) < 0) = true) (hlow : bits .and .u64 (m : Int) (IntKind.u64.wrap (-(m : Int))) = (low : Int)) (ht : IntKind.u64.wrap ((m : Int) + (low : Int)) = (t : Int)) (lo : Int) (hlo0 : 0 ≤ lo) (hlo1 : lo ≤ 4294967295) (hlo : bits .and .u64 (x : Int) 4294967295 = lo) (hx2 : bits .or .u64 (lo * 4294967296) lo = (x : Int)) 
    (r1 : ((x : Int) != bits .or .u64 ((x : Int) / 4294967296) (IntKind.u64.wrap ((x : Int) * 4294967296))) = false) (r2 : ((x : Int) != bits .or .u64 ((x : Int) / 65536) (IntKind.u64.wrap ((x : Int) * 281474976710656))) = false) (r3 : ((x : Int) != bits .or .u64 ((x : Int) / 256) (IntKind.u64.wrap ((x : Int) * 72057594037927936))) = false) (r4 : ((x : Int) != bits .or .u64 ((x : Int) / 16) (IntKind.u64.wrap ((x : Int) * 1152921504606846976))) = false) (r5 : ((x : Int) != bits .or .u64 ((x : Int) / 4) (IntKind.u64.wrap ((x : Int) * 4611686018427387904))) = false)
    (hl0 : Hid (low ≠ 0)) (hll : Hid (low < 18446744073709551616)) (hla : Hid (low.log2 = a)) (ht0 : Hid (t ≠ 0)) (htl : Hid (t < 18446744073709551616)) (htb : Hid (t.log2 = b)) (ha : a < 64) (hab : a < b) (hb : b ≤ 1) (w : World) :
    Calls Try.prog 28 #[.int .u64 x, .int .i64 32] w fun e w' => e = .returned (.int .u32 (encZ 0 2 1 31 3 (b : Int) (2 - ((b : Int) - (a : Int))))) ∧ w = w' := by
  have hsg := u64_unsigned
  go_enter Try.func28, Try.ntmps28
  go_wp2_with fail
  refine (log2_any _ low rfl hl0.out hll.out _).mono ?_
  rw [hla.out]
  rintro e w' ⟨rfl, rfl⟩
  go_wp2_with fail
  refine (log2_any _ t rfl ht0.out htl.out _).mono ?_
  rw [htb.out]
  rintro e w' ⟨rfl, rfl⟩
  go_wp2_with fail
  go_ret
  exact ⟨ret_int rfl, rfl⟩

end Go.Proofs.Ytnohdfdjhhmmdaa
