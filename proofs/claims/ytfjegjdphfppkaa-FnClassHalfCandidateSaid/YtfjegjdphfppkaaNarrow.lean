/- The contract of the laws' own narrow. -/
import Derived.Test.YtfjegjdphfppkaaClassSpec
namespace Go.Proofs.Ytfjegjdphfppkaa
open Go.RowKit

theorem spec_is (z : Int) (x : Nat) (hz : z = x) (hx : x < 18446744073709551616) (w : World) :
    Calls Try.prog 17 #[.int .u64 z] w fun e w' => e = .returned (.bool (Pl.isB x)) ∧ w = w' := by
  have := spec_bitcon_any z x hz w
  rwa [← Pl.isB_spec x hx] at this

def narrowZ (v : Int) (b m : Bool) : Int :=
  if v = 0 then 16
  else if add12B v = true then (if b = true then 17 else 18)
  else if addB v = true then (if b = true then 19 else if m = true then 20 else 21)
  else if m = true then (if b = true then 22 else 23)
  else if b = true then 24
  else if add24B v = true then 25 else 0
def narrowR (v : Int) (b m : Bool) : Ending := .returned (.tuple #[.int .i64 (narrowZ v b m), .bool (narrowZ v b m != 0)])
theorem nr_of {v : Int} {b m : Bool} {c : Int} (h : c = narrowZ v b m) : Ending.returned (.tuple #[.int .i64 c, .bool (c != 0)]) = narrowR v b m := by
  unfold narrowR; rw [h]
theorem nz0 {v : Int} {b m : Bool} (h0 : (v == 0) = true) : 16 = narrowZ v b m := by
  unfold narrowZ; rw [if_pos (by simpa using h0)]
theorem nz1 {v : Int} {b m : Bool} (h0 : (v == 0) = false) (hl : add12B v = true) (hb : b = true) : 17 = narrowZ v b m := by
  unfold narrowZ; rw [if_neg (by simpa using h0), if_pos hl, if_pos hb]
theorem nz2 {v : Int} {b m : Bool} (h0 : (v == 0) = false) (hl : add12B v = true) (hb : b = false) : 18 = narrowZ v b m := by
  unfold narrowZ; rw [if_neg (by simpa using h0), if_pos hl, if_neg (by simp [hb])]
theorem nz3 {v : Int} {b m : Bool} (h0 : (v == 0) = false) (hl : ¬ add12B v = true) (ha : addB v = true) (hb : b = true) : 19 = narrowZ v b m := by
  unfold narrowZ; rw [if_neg (by simpa using h0), if_neg hl, if_pos ha, if_pos hb]
theorem nz4 {v : Int} {b m : Bool} (h0 : (v == 0) = false) (hl : ¬ add12B v = true) (ha : addB v = true) (hb : b = false) (hm : m = true) : 20 = narrowZ v b m := by
  unfold narrowZ; rw [if_neg (by simpa using h0), if_neg hl, if_pos ha, if_neg (by simp [hb]), if_pos hm]
theorem nz5 {v : Int} {b m : Bool} (h0 : (v == 0) = false) (hl : ¬ add12B v = true) (ha : addB v = true) (hb : b = false) (hm : m = false) : 21 = narrowZ v b m := by
  unfold narrowZ; rw [if_neg (by simpa using h0), if_neg hl, if_pos ha, if_neg (by simp [hb]), if_neg (by simp [hm])]
theorem nz6 {v : Int} {b m : Bool} (h0 : (v == 0) = false) (hl : ¬ add12B v = true) (ha : ¬ addB v = true) (hm : m = true) (hb : b = true) : 22 = narrowZ v b m := by
  unfold narrowZ; rw [if_neg (by simpa using h0), if_neg hl, if_neg ha, if_pos hm, if_pos hb]
theorem nz7 {v : Int} {b m : Bool} (h0 : (v == 0) = false) (hl : ¬ add12B v = true) (ha : ¬ addB v = true) (hm : m = true) (hb : b = false) : 23 = narrowZ v b m := by
  unfold narrowZ; rw [if_neg (by simpa using h0), if_neg hl, if_neg ha, if_pos hm, if_neg (by simp [hb])]
theorem nz8 {v : Int} {b m : Bool} (h0 : (v == 0) = false) (hl : ¬ add12B v = true) (ha : ¬ addB v = true) (hm : ¬ m = true) (hb : b = true) : 24 = narrowZ v b m := by
  unfold narrowZ; rw [if_neg (by simpa using h0), if_neg hl, if_neg ha, if_neg hm, if_pos hb]
theorem nz9 {v : Int} {b m : Bool} (h0 : (v == 0) = false) (hl : ¬ add12B v = true) (ha : ¬ addB v = true) (hm : ¬ m = true) (hb : b = false) (hc : add24B v = true) : 25 = narrowZ v b m := by
  unfold narrowZ; rw [if_neg (by simpa using h0), if_neg hl, if_neg ha, if_neg hm, if_neg (by simp [hb]), if_pos hc]
theorem nz10 {v : Int} {b m : Bool} (h0 : (v == 0) = false) (hl : ¬ add12B v = true) (ha : ¬ addB v = true) (hm : ¬ m = true) (hb : b = false) (hc : add24B v = false) : 0 = narrowZ v b m := by
  unfold narrowZ; rw [if_neg (by simpa using h0), if_neg hl, if_neg ha, if_neg hm, if_neg (by simp [hb]), if_neg (by simp [hc])]

set_option maxHeartbeats 1000000 in
theorem narrow_any (v : Int) (u : Nat) (hv : IntKind.u64.wrap v = u) (hu : Hid (u < 18446744073709551616)) (w : World) :
    Calls Try.prog 14 #[.int .i64 v] w fun e w' => e = narrowR v (Pl.isB u) (moveB u) ∧ w = w' := by
  have HV := Lib.hid hv
  go_enter Try.func14, Try.ntmps14
  go_wp2_with (first
    | (go_at_call 17; (with_reducible refine (spec_is _ u rfl hu.out _).mono ?_); rintro e w' ⟨rfl, rfl⟩)
    | (go_at_call 16; (with_reducible refine (add12_any _ _).mono ?_); rintro e w' ⟨rfl, rfl⟩)
    | (go_at_call 18; (with_reducible refine (isadd_any _ _).mono ?_); rintro e w' ⟨rfl, rfl⟩)
    | (go_at_call 19; (with_reducible refine (add24_any _ _).mono ?_); rintro e w' ⟨rfl, rfl⟩)
    | (go_at_call 25; (with_reducible refine (ismove_any _ u HV hu _).mono ?_); rintro e w' ⟨rfl, rfl⟩))
  all_goals
    go_ret2
    first
      | exact ⟨nr_of (nz0 ‹_›), rfl⟩
      | exact ⟨nr_of (nz1 ‹_› ‹_› ‹_›), rfl⟩
      | exact ⟨nr_of (nz2 ‹_› ‹_› ‹_›), rfl⟩
      | exact ⟨nr_of (nz3 ‹_› ‹_› ‹_› ‹_›), rfl⟩
      | exact ⟨nr_of (nz4 ‹_› ‹_› ‹_› ‹_› ‹_›), rfl⟩
      | exact ⟨nr_of (nz5 ‹_› ‹_› ‹_› ‹_› ‹_›), rfl⟩
      | exact ⟨nr_of (nz6 ‹_› ‹_› ‹_› ‹_› ‹_›), rfl⟩
      | exact ⟨nr_of (nz7 ‹_› ‹_› ‹_› ‹_› ‹_›), rfl⟩
      | exact ⟨nr_of (nz8 ‹_› ‹_› ‹_› ‹_› ‹_›), rfl⟩
      | exact ⟨nr_of (nz9 ‹_› ‹_› ‹_› ‹_› ‹_› ‹_›), rfl⟩
      | exact ⟨nr_of (nz10 ‹_› ‹_› ‹_› ‹_› ‹_› ‹_›), rfl⟩

theorem narrow_class (v : Int) (b m : Bool) (m1 m2 : Int) (hm : m = true ↔ 0 ≤ m1 ∨ 0 ≤ m2) :
    (narrowZ v b m ≠ 0 ∧ classZ v b m1 m2 = narrowZ v b m) ∨ (narrowZ v b m = 0 ∧ ((classZ v b m1 m2 = 26 ∧ wordB v = true) ∨ classZ v b m1 m2 = 29)) := by
  have h12 : addB v = true → (add12B v = true ↔ v ≤ 4095) := by
    intro h; simp [addB] at h; simp [add12B]; omega
  have h12' : add12B v = true → addB v = true := by
    intro h; simp [add12B] at h; simp [addB]; omega
  unfold narrowZ classZ
  by_cases c0 : v = 0
  · left; rw [if_pos c0, if_pos c0]; exact ⟨by decide, rfl⟩
  rw [if_neg c0, if_neg c0]
  by_cases ca : addB v = true
  · left
    rw [if_pos ca, if_pos ca]
    by_cases cl : v ≤ 4095
    · rw [if_pos ((h12 ca).2 cl), if_pos cl]
      cases b <;> simp
    · rw [if_neg (fun h => cl ((h12 ca).1 h)), if_neg cl]
      cases b
      · by_cases g1 : 0 ≤ m1
        · rw [hm.2 (.inl g1)]; simp [g1]
        · by_cases g2 : 0 ≤ m2
          · rw [hm.2 (.inr g2)]; simp [g1, g2]
          · have : m = false := by
              cases m with
              | false => rfl
              | true => rcases hm.1 rfl with h | h <;> contradiction
            simp [this, g1, g2]
      · simp
  · rw [if_neg (fun h => ca (h12' h)), if_neg ca, if_neg ca]
    by_cases g1 : 0 ≤ m1
    · left
      rw [hm.2 (.inl g1)]
      cases b <;> simp [g1]
    · by_cases g2 : 0 ≤ m2
      · left
        rw [hm.2 (.inr g2)]
        cases b <;> simp [g1, g2]
      · have hmf : m = false := by
          cases m with
          | false => rfl
          | true => rcases hm.1 rfl with h | h <;> contradiction
        cases b
        · cases c24 : add24B v
          · right
            cases cw : wordB v <;> simp [hmf, g1, g2]
          · left; simp [hmf, g1, g2]
        · left; simp [hmf, g1, g2]
end Go.Proofs.Ytfjegjdphfppkaa
