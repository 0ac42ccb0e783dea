/- The contract of conclass, for both modes. -/
import Derived.Test.YtfjegjdphfppkaaBitWalks
import Derived.Test.YtfjegjdphfppkaaAddWalks
import Derived.Test.YtfjegjdphfppkaaMoves
namespace Go.Proofs.Ytfjegjdphfppkaa
open Go.RowKit

def wordB (v : Int) : Bool := decide (-2147483648 ≤ v ∧ v < 4294967296)
/-- What 'conclass' gives, by what it asks of a number. -/
def classZ (v : Int) (b : Bool) (m1 m2 : Int) : Int :=
  if v = 0 then 16
  else if addB v = true then
    if v ≤ 4095 then (if b = true then 17 else 18)
    else if b = true then 19 else if 0 ≤ m1 then 20 else if 0 ≤ m2 then 20 else 21
  else if 0 ≤ m1 then (if b = true then 22 else 23)
  else if 0 ≤ m2 then (if b = true then 22 else 23)
  else if b = true then 24
  else if add24B v = true then 25
  else if wordB v = true then 26 else 29

theorem not_i64 (v : Int) (h0 : -9223372036854775808 ≤ v) (h1 : v ≤ 9223372036854775807) : bits .xor .i64 (-1) v = -1 - v := by
  have e : (BitVec.ofInt 64 (-1) ^^^ BitVec.ofInt 64 v) = ~~~ BitVec.ofInt 64 v := by
    rw [show BitVec.ofInt 64 (-1) = BitVec.allOnes 64 by decide, BitVec.allOnes_xor]
  show IntKind.i64.wrap ((BitVec.ofInt 64 (-1) ^^^ BitVec.ofInt 64 v).toNat : Int) = _
  rw [e, BitVec.toNat_not, BitVec.toNat_ofInt, IntKind.wrap_i64]
  omega

theorem word1 (v : Int) (u : Nat) (b0 : -9223372036854775808 ≤ v) (b1 : v ≤ 9223372036854775807) (hv : IntKind.u64.wrap v = u) (h : (u : Int) = v % 4294967296) : wordB v = true := by
  rw [IntKind.wrap_u64] at hv; simp [wordB]; omega
theorem word2 (v : Int) (u : Nat) (b0 : -9223372036854775808 ≤ v) (b1 : v ≤ 9223372036854775807) (hv : IntKind.u64.wrap v = u) (h : ((u : Int) == v % 4294967296) = true ∨ (v == wrap64 (wrap32 v)) = true) : wordB v = true := by
  rw [IntKind.wrap_u64] at hv
  simp only [beq_iff_eq] at h
  unfold wrap64 wrap32 at h
  simp [wordB]; omega
theorem word3 (v : Int) (u : Nat) (b0 : -9223372036854775808 ≤ v) (b1 : v ≤ 9223372036854775807) (hv : IntKind.u64.wrap v = u) (h : ((u : Int) == v % 4294967296) = false ∧ (v == wrap64 (wrap32 v)) = false) : wordB v = false := by
  rw [IntKind.wrap_u64] at hv
  simp only [beq_eq_false_iff_ne, ne_eq] at h
  unfold wrap64 wrap32 at h
  simp [wordB]; omega

theorem cz0 {v m1 m2 : Int} {b : Bool} (h0 : (v == 0) = true) : 16 = classZ v b m1 m2 := by
  unfold classZ; rw [if_pos (by simpa using h0)]
theorem cz1 {v m1 m2 : Int} {b : Bool} (h0 : (v == 0) = false) (ha : addB v = true) (hl : v ≤ 4095) (hb : b = true) : 17 = classZ v b m1 m2 := by
  unfold classZ; rw [if_neg (by simpa using h0), if_pos ha, if_pos hl, if_pos hb]
theorem cz2 {v m1 m2 : Int} {b : Bool} (h0 : (v == 0) = false) (ha : addB v = true) (hl : v ≤ 4095) (hb : b = false) : 18 = classZ v b m1 m2 := by
  unfold classZ; rw [if_neg (by simpa using h0), if_pos ha, if_pos hl, if_neg (by simp [hb])]
theorem cz3 {v m1 m2 : Int} {b : Bool} (h0 : (v == 0) = false) (ha : addB v = true) (hl : 4095 < v) (hb : b = true) : 19 = classZ v b m1 m2 := by
  unfold classZ; rw [if_neg (by simpa using h0), if_pos ha, if_neg (by omega), if_pos hb]
theorem cz4 {v m1 m2 : Int} {b : Bool} (h0 : (v == 0) = false) (ha : addB v = true) (hl : 4095 < v) (hb : b = false) (hm1 : 0 ≤ m1) : 20 = classZ v b m1 m2 := by
  unfold classZ; rw [if_neg (by simpa using h0), if_pos ha, if_neg (by omega), if_neg (by simp [hb]), if_pos hm1]
theorem cz5 {v m1 m2 : Int} {b : Bool} (h0 : (v == 0) = false) (ha : addB v = true) (hl : 4095 < v) (hb : b = false) (hm1 : m1 < 0) (hm2 : 0 ≤ m2) : 20 = classZ v b m1 m2 := by
  unfold classZ; rw [if_neg (by simpa using h0), if_pos ha, if_neg (by omega), if_neg (by simp [hb]), if_neg (by omega), if_pos hm2]
theorem cz6 {v m1 m2 : Int} {b : Bool} (h0 : (v == 0) = false) (ha : addB v = true) (hl : 4095 < v) (hb : b = false) (hm1 : m1 < 0) (hm2 : m2 < 0) : 21 = classZ v b m1 m2 := by
  unfold classZ; rw [if_neg (by simpa using h0), if_pos ha, if_neg (by omega), if_neg (by simp [hb]), if_neg (by omega), if_neg (by omega)]
theorem cz7 {v m1 m2 : Int} {b : Bool} (h0 : (v == 0) = false) (ha : addB v = false) (hm1 : 0 ≤ m1) (hb : b = true) : 22 = classZ v b m1 m2 := by
  unfold classZ; rw [if_neg (by simpa using h0), if_neg (by simp [ha]), if_pos hm1, if_pos hb]
theorem cz8 {v m1 m2 : Int} {b : Bool} (h0 : (v == 0) = false) (ha : addB v = false) (hm1 : 0 ≤ m1) (hb : b = false) : 23 = classZ v b m1 m2 := by
  unfold classZ; rw [if_neg (by simpa using h0), if_neg (by simp [ha]), if_pos hm1, if_neg (by simp [hb])]
theorem cz9 {v m1 m2 : Int} {b : Bool} (h0 : (v == 0) = false) (ha : addB v = false) (hm1 : m1 < 0) (hm2 : 0 ≤ m2) (hb : b = true) : 22 = classZ v b m1 m2 := by
  unfold classZ; rw [if_neg (by simpa using h0), if_neg (by simp [ha]), if_neg (by omega), if_pos hm2, if_pos hb]
theorem cz10 {v m1 m2 : Int} {b : Bool} (h0 : (v == 0) = false) (ha : addB v = false) (hm1 : m1 < 0) (hm2 : 0 ≤ m2) (hb : b = false) : 23 = classZ v b m1 m2 := by
  unfold classZ; rw [if_neg (by simpa using h0), if_neg (by simp [ha]), if_neg (by omega), if_pos hm2, if_neg (by simp [hb])]
theorem cz11 {v m1 m2 : Int} {b : Bool} (h0 : (v == 0) = false) (ha : addB v = false) (hm1 : m1 < 0) (hm2 : m2 < 0) (hb : b = true) : 24 = classZ v b m1 m2 := by
  unfold classZ; rw [if_neg (by simpa using h0), if_neg (by simp [ha]), if_neg (by omega), if_neg (by omega), if_pos hb]
theorem cz12 {v m1 m2 : Int} {b : Bool} (h0 : (v == 0) = false) (ha : addB v = false) (hm1 : m1 < 0) (hm2 : m2 < 0) (hb : b = false) (hc : add24B v = true) : 25 = classZ v b m1 m2 := by
  unfold classZ; rw [if_neg (by simpa using h0), if_neg (by simp [ha]), if_neg (by omega), if_neg (by omega), if_neg (by simp [hb]), if_pos hc]
theorem cz13 {v m1 m2 : Int} {b : Bool} (h0 : (v == 0) = false) (ha : addB v = false) (hm1 : m1 < 0) (hm2 : m2 < 0) (hb : b = false) (hc : add24B v = false) (hw : wordB v = true) : 26 = classZ v b m1 m2 := by
  unfold classZ; rw [if_neg (by simpa using h0), if_neg (by simp [ha]), if_neg (by omega), if_neg (by omega), if_neg (by simp [hb]), if_neg (by simp [hc]), if_pos hw]
theorem cz14 {v m1 m2 : Int} {b : Bool} (h0 : (v == 0) = false) (ha : addB v = false) (hm1 : m1 < 0) (hm2 : m2 < 0) (hb : b = false) (hc : add24B v = false) (hw : wordB v = false) : 29 = classZ v b m1 m2 := by
  unfold classZ; rw [if_neg (by simpa using h0), if_neg (by simp [ha]), if_neg (by omega), if_neg (by omega), if_neg (by simp [hb]), if_neg (by simp [hc]), if_neg (by simp [hw])]

set_option maxHeartbeats 1000000 in
theorem conclass_64 (v : Int) (u n : Nat) (b0 : -9223372036854775808 ≤ v) (b1 : v ≤ 9223372036854775807) (hv : IntKind.u64.wrap v = u) (hu : Hid (u < 18446744073709551616))
    (HN : Hid (IntKind.u64.wrap (-1 - v) = n)) (hnl : Hid (n < 18446744073709551616)) (w : World) :
    Calls Try.prog 33 #[.int .i64 v, .int .i64 64] w fun e w' => e = .returned (.int .i64 (classZ v (Pl.isB u) (movN u) (movN n))) ∧ w = w' := by
  have hsg : IntKind.i64.signed = true := rfl
  have hnot := not_i64 v b0 b1
  have HV := Lib.hid hv
  go_enter Try.func33, Try.ntmps33
  go_wp2_with (first
    | (go_at_call 35; (with_reducible refine (addcon_any _ b1 _).mono ?_); rintro e w' ⟨rfl, rfl⟩)
    | (go_at_call 38; (with_reducible refine (addcon2_any _ _).mono ?_); rintro e w' ⟨rfl, rfl⟩)
    | (go_at_call 36; (with_reducible refine (isbitcon_any _ u rfl hu.out _).mono ?_); rintro e w' ⟨rfl, rfl⟩)
    | (go_at_call 37; (with_reducible refine (movcon_any _ u HV.out hu.out _).mono ?_); rintro e w' ⟨rfl, rfl⟩)
    | (go_at_call 37; (with_reducible refine (movcon_any _ n HN.out hnl.out _).mono ?_); rintro e w' ⟨rfl, rfl⟩))
  all_goals
    go_ret
    refine ⟨ret_int ?_, rfl⟩
    have hw1 : (u : Int) = v % 4294967296 → wordB v = true := word1 v u b0 b1 HV.out
    have hw2 : ((u : Int) == v % 4294967296) = true ∨ (v == wrap64 (wrap32 v)) = true → wordB v = true := word2 v u b0 b1 HV.out
    have hw3 : ((u : Int) == v % 4294967296) = false ∧ (v == wrap64 (wrap32 v)) = false → wordB v = false := word3 v u b0 b1 HV.out
    clear HV hv hnot hsg
    first
      | exact cz0 ‹_›
      | exact cz1 ‹_› ‹_› ‹_› ‹_›
      | exact cz2 ‹_› ‹_› ‹_› ‹_›
      | exact cz3 ‹_› ‹_› ‹_› ‹_›
      | exact cz4 ‹_› ‹_› ‹_› ‹_› ‹_›
      | exact cz5 ‹_› ‹_› ‹_› ‹_› ‹_› ‹_›
      | exact cz6 ‹_› ‹_› ‹_› ‹_› ‹_› ‹_›
      | exact cz7 ‹_› ‹_› ‹_› ‹_›
      | exact cz8 ‹_› ‹_› ‹_› ‹_›
      | exact cz9 ‹_› ‹_› ‹_› ‹_› ‹_›
      | exact cz10 ‹_› ‹_› ‹_› ‹_› ‹_›
      | exact cz11 ‹_› ‹_› ‹_› ‹_› ‹_›
      | exact cz12 ‹_› ‹_› ‹_› ‹_› ‹_› ‹_›
      | exact cz13 ‹_› ‹_› ‹_› ‹_› ‹_› ‹_› (hw1 ‹_›)
      | exact cz13 ‹_› ‹_› ‹_› ‹_› ‹_› ‹_› (hw2 ‹_›)
      | exact cz14 ‹_› ‹_› ‹_› ‹_› ‹_› ‹_› (hw3 ‹_›)
end Go.Proofs.Ytfjegjdphfppkaa
