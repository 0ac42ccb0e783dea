/- The contracts of isaddcon, isaddcon2, of the thin functions round them, and of the reference's IsAdd12, IsAdd, IsAdd24. -/
import Derived.Test.YtfjegjdphfppkaaProg
import Derived.Test.YtfjegjdphfppkaaU64
import Derived.Laws.BitsAll
namespace Go.Proofs.Ytfjegjdphfppkaa
open Go.RowKit

def add24B (v : Int) : Bool := decide (0 ≤ v ∧ v < 16777216)
def add12B (v : Int) : Bool := decide (0 ≤ v ∧ v < 4096)
def addB (v : Int) : Bool := decide (0 ≤ v ∧ (v < 4096 ∨ v < 16777216 ∧ v % 4096 = 0))

theorem and_4095 (v : Int) (h0 : 0 ≤ v) (h1 : v ≤ 9223372036854775807) : bits .and .i64 v 4095 = v % 4096 := by
  have := bits_mask .i64 63 (by decide) (fun n h0 h1 => IntWalk.i64_in n (by omega)) 12 (by omega) v h0 (by omega)
  simpa using this

theorem add12_any (v : Int) (w : World) : Calls Try.prog 16 #[.int .i64 v] w fun e w' => e = .returned (.bool (add12B v)) ∧ w = w' := by
  by_cases h0 : 0 ≤ v
  · by_cases h1 : v < 4096
    all_goals
      go_enter Try.func16, Try.ntmps16
      go_wp2
      go_ret
      exact ⟨ret_bool (by simp [add12B]; omega), rfl⟩
  · go_enter Try.func16, Try.ntmps16
    go_wp2
    go_ret
    exact ⟨ret_bool (by simp [add12B]; omega), rfl⟩
theorem add24_any (v : Int) (w : World) : Calls Try.prog 19 #[.int .i64 v] w fun e w' => e = .returned (.bool (add24B v)) ∧ w = w' := by
  by_cases h0 : 0 ≤ v
  · by_cases h1 : v < 16777216
    all_goals
      go_enter Try.func19, Try.ntmps19
      go_wp2
      go_ret
      exact ⟨ret_bool (by simp [add24B]; omega), rfl⟩
  · go_enter Try.func19, Try.ntmps19
    go_wp2
    go_ret
    exact ⟨ret_bool (by simp [add24B]; omega), rfl⟩
theorem addcon2_any (v : Int) (w : World) : Calls Try.prog 38 #[.int .i64 v] w fun e w' => e = .returned (.bool (add24B v)) ∧ w = w' := by
  by_cases h0 : 0 ≤ v
  · by_cases h1 : v ≤ 16777215
    all_goals
      go_enter Try.func38, Try.ntmps38
      go_wp2
      go_ret
      exact ⟨ret_bool (by simp [add24B]; omega), rfl⟩
  · go_enter Try.func38, Try.ntmps38
    go_wp2
    go_ret
    exact ⟨ret_bool (by simp [add24B]; omega), rfl⟩
theorem addcon_any (v : Int) (hv : v ≤ 9223372036854775807) (w : World) : Calls Try.prog 35 #[.int .i64 v] w fun e w' => e = .returned (.bool (addB v)) ∧ w = w' := by
  by_cases h0 : 0 ≤ v
  · have e := and_4095 v h0 hv
    by_cases h1 : v % 4096 = 0
    · have e1 : (v % 4096 == 0) = true := by simp [h1]
      have H1 := Lib.hid h1; clear h1
      go_enter Try.func35, Try.ntmps35
      go_wp2
      go_ret
      have h1 := H1.out
      exact ⟨ret_bool (by rw [Bool.eq_iff_iff]; simp [addB]; omega), rfl⟩
    · have e1 : (v % 4096 == 0) = false := by simp [h1]
      go_enter Try.func35, Try.ntmps35
      go_wp2
      go_ret
      exact ⟨ret_bool (by rw [Bool.eq_iff_iff]; simp [addB]; omega), rfl⟩
  · go_enter Try.func35, Try.ntmps35
    go_wp2
    go_ret
    exact ⟨ret_bool (by rw [Bool.eq_iff_iff]; simp [addB]; omega), rfl⟩
theorem isadd_any (v : Int) (w : World) : Calls Try.prog 18 #[.int .i64 v] w fun e w' => e = .returned (.bool (addB v)) ∧ w = w' := by
  by_cases h0 : 0 ≤ v
  · by_cases h1 : v < 4096
    · have a1 : add12B v = true := by simp [add12B]; omega
      go_enter Try.func18, Try.ntmps18
      go_wp2_with (go_at_call 16; refine (add12_any _ _).mono ?_; rintro e w' ⟨rfl, rfl⟩)
      go_ret
      exact ⟨ret_bool (by simp [addB]; omega), rfl⟩
    · have a1 : add12B v = false := by simp [add12B]; omega
      by_cases h2 : v < 16777216
      all_goals
        go_enter Try.func18, Try.ntmps18
        go_wp2_with (go_at_call 16; refine (add12_any _ _).mono ?_; rintro e w' ⟨rfl, rfl⟩)
        go_ret
        exact ⟨ret_bool (by rw [Bool.eq_iff_iff]; simp [addB]; omega), rfl⟩
  · have a1 : add12B v = false := by simp [add12B]; omega
    go_enter Try.func18, Try.ntmps18
    go_wp2_with (go_at_call 16; refine (add12_any _ _).mono ?_; rintro e w' ⟨rfl, rfl⟩)
    go_ret
    exact ⟨ret_bool (by simp [addB]; omega), rfl⟩
end Go.Proofs.Ytfjegjdphfppkaa
