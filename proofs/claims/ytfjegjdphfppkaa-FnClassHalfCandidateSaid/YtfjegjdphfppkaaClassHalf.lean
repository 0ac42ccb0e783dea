/- The walk of the law FnClassHalfCandidate. -/
import Derived.Test.YtfjegjdphfppkaaClassMore
namespace Go.Proofs.Ytfjegjdphfppkaa
open Go.RowKit

theorem class_32 (v : Int) (x y m : Nat) (hv : v = x) (hx : x < 4294967296) (hy : Hid (bits .or .u64 ((x : Int) * 4294967296) (x : Int) = (y : Int))) (hyl : Hid (y < 18446744073709551616))
    (hum : Hid (IntKind.u64.wrap ((-1 - (x : Int)) % 4294967296) = (m : Int))) (hmm : Hid (m < 18446744073709551616)) (c : Int) (hc : Hid (classZ x (Pl.isB y) (movN x) (movN m) = c)) (w : World) :
    Calls Try.prog 15 #[.int .i64 v, .int .i64 32] w fun e w' => e = .returned (.int .i64 c) ∧ w = w' := by
  subst hv
  have h := conclass_32 x y m hx hy hyl hum hmm
  rw [hc.out] at h
  have H := Lib.hid h
  clear h
  go_enter Try.func15, Try.ntmps15
  go_wp2_with (first | (go_at_call 33; (with_reducible refine (H.out _).mono ?_); rintro e w' ⟨rfl, rfl⟩) | go_in)
  go_ret
  exact ⟨rfl, rfl⟩

def mv32 (x : Nat) : Bool := decide (x / 65536 = 0 ∨ x % 65536 = 0 ∨ x / 65536 = 65535 ∨ x % 65536 = 65535)

theorem mv32_iff (x m : Nat) (hx : x < 4294967296) (hm : m = 4294967295 - x) : mv32 x = true ↔ 0 ≤ movN x ∨ 0 ≤ movN m := by
  rw [hit_lit x (by omega), hit_lit m (by omega)]
  simp only [mv32, decide_eq_true_eq]
  omega

set_option maxHeartbeats 2000000 in
theorem half_walk0 (v : Int) (x y m : Nat) (c : Int) (b : Bool) (hv0 : 0 ≤ v) (hv1 : v < 4294967296) (hv : Hid (v = x)) (hx : Hid (x < 4294967296)) (hy : Hid (bits .or .u64 ((x : Int) * 4294967296) (x : Int) = (y : Int))) (hy2 : Hid (bits .or .u64 v (v * 4294967296) = (y : Int))) (hyl : Hid (y < 18446744073709551616))
    (hum : Hid (IntKind.u64.wrap ((-1 - (x : Int)) % 4294967296) = (m : Int))) (hmm : Hid (m < 18446744073709551616)) (HB : Hid (Pl.isB y = b)) (hc : Hid (classZ x (Pl.isB y) (movN x) (movN m) = c))
    (hcz : Hid (c = halfZ v b true)) (hand : bits .and .u32 v 65535 = v % 65536)
    (t1 : (v / 65536 == 0) = true) (w : World) :
    Calls Try.prog 8 #[.int .u32 v] w fun e w' => e = .returned (.bool true) ∧ Grown w w' := by
  go_enter Try.func8, Try.ntmps8
  go_wp2_with fail
  refine (spec_is _ y hy2.out hyl.out _).mono ?_
  rw [HB.out]
  rintro e w' ⟨rfl, rfl⟩
  go_wp2_with fail
  refine (class_32 _ x y m hv.out hx.out hy hyl hum hmm c hc _).mono ?_
  rintro e w' ⟨rfl, rfl⟩
  go_wp2_with (first
    | (go_at_call 16; (with_reducible refine (add12_any _ _).mono ?_); rintro e w' ⟨rfl, rfl⟩)
    | (go_at_call 18; (with_reducible refine (isadd_any _ _).mono ?_); rintro e w' ⟨rfl, rfl⟩)
    | (go_at_call 19; (with_reducible refine (add24_any _ _).mono ?_); rintro e w' ⟨rfl, rfl⟩))
  all_goals
    go_ret
    first
      | exact ⟨ret_bool (half_eq hcz.out (nz0 ‹_›) (by decide)), Grown.refl _⟩
      | exact ⟨ret_bool (half_eq hcz.out (nz1 ‹_› ‹_› ‹_›) (by decide)), Grown.refl _⟩
      | exact ⟨ret_bool (half_eq hcz.out (nz2 ‹_› ‹_› ‹_›) (by decide)), Grown.refl _⟩
      | exact ⟨ret_bool (half_eq hcz.out (nz3 ‹_› ‹_› ‹_› ‹_›) (by decide)), Grown.refl _⟩
      | exact ⟨ret_bool (half_eq hcz.out (nz4 ‹_› ‹_› ‹_› ‹_› rfl) (by decide)), Grown.refl _⟩
      | exact ⟨ret_bool (half_eq hcz.out (nz6 ‹_› ‹_› ‹_› rfl ‹_›) (by decide)), Grown.refl _⟩
      | exact ⟨ret_bool (half_eq hcz.out (nz7 ‹_› ‹_› ‹_› rfl ‹_›) (by decide)), Grown.refl _⟩
set_option maxHeartbeats 2000000 in
theorem half_walk1 (v : Int) (x y m : Nat) (c : Int) (b : Bool) (hv0 : 0 ≤ v) (hv1 : v < 4294967296) (hv : Hid (v = x)) (hx : Hid (x < 4294967296)) (hy : Hid (bits .or .u64 ((x : Int) * 4294967296) (x : Int) = (y : Int))) (hy2 : Hid (bits .or .u64 v (v * 4294967296) = (y : Int))) (hyl : Hid (y < 18446744073709551616))
    (hum : Hid (IntKind.u64.wrap ((-1 - (x : Int)) % 4294967296) = (m : Int))) (hmm : Hid (m < 18446744073709551616)) (HB : Hid (Pl.isB y = b)) (hc : Hid (classZ x (Pl.isB y) (movN x) (movN m) = c))
    (hcz : Hid (c = halfZ v b true)) (hand : bits .and .u32 v 65535 = v % 65536)
    (t1 : (v / 65536 == 0) = false) (t2 : (v % 65536 == 0) = true) (w : World) :
    Calls Try.prog 8 #[.int .u32 v] w fun e w' => e = .returned (.bool true) ∧ Grown w w' := by
  go_enter Try.func8, Try.ntmps8
  go_wp2_with fail
  refine (spec_is _ y hy2.out hyl.out _).mono ?_
  rw [HB.out]
  rintro e w' ⟨rfl, rfl⟩
  go_wp2_with fail
  refine (class_32 _ x y m hv.out hx.out hy hyl hum hmm c hc _).mono ?_
  rintro e w' ⟨rfl, rfl⟩
  go_wp2_with (first
    | (go_at_call 16; (with_reducible refine (add12_any _ _).mono ?_); rintro e w' ⟨rfl, rfl⟩)
    | (go_at_call 18; (with_reducible refine (isadd_any _ _).mono ?_); rintro e w' ⟨rfl, rfl⟩)
    | (go_at_call 19; (with_reducible refine (add24_any _ _).mono ?_); rintro e w' ⟨rfl, rfl⟩))
  all_goals
    go_ret
    first
      | exact ⟨ret_bool (half_eq hcz.out (nz0 ‹_›) (by decide)), Grown.refl _⟩
      | exact ⟨ret_bool (half_eq hcz.out (nz1 ‹_› ‹_› ‹_›) (by decide)), Grown.refl _⟩
      | exact ⟨ret_bool (half_eq hcz.out (nz2 ‹_› ‹_› ‹_›) (by decide)), Grown.refl _⟩
      | exact ⟨ret_bool (half_eq hcz.out (nz3 ‹_› ‹_› ‹_› ‹_›) (by decide)), Grown.refl _⟩
      | exact ⟨ret_bool (half_eq hcz.out (nz4 ‹_› ‹_› ‹_› ‹_› rfl) (by decide)), Grown.refl _⟩
      | exact ⟨ret_bool (half_eq hcz.out (nz6 ‹_› ‹_› ‹_› rfl ‹_›) (by decide)), Grown.refl _⟩
      | exact ⟨ret_bool (half_eq hcz.out (nz7 ‹_› ‹_› ‹_› rfl ‹_›) (by decide)), Grown.refl _⟩
set_option maxHeartbeats 2000000 in
theorem half_walk2 (v : Int) (x y m : Nat) (c : Int) (b : Bool) (hv0 : 0 ≤ v) (hv1 : v < 4294967296) (hv : Hid (v = x)) (hx : Hid (x < 4294967296)) (hy : Hid (bits .or .u64 ((x : Int) * 4294967296) (x : Int) = (y : Int))) (hy2 : Hid (bits .or .u64 v (v * 4294967296) = (y : Int))) (hyl : Hid (y < 18446744073709551616))
    (hum : Hid (IntKind.u64.wrap ((-1 - (x : Int)) % 4294967296) = (m : Int))) (hmm : Hid (m < 18446744073709551616)) (HB : Hid (Pl.isB y = b)) (hc : Hid (classZ x (Pl.isB y) (movN x) (movN m) = c))
    (hcz : Hid (c = halfZ v b true)) (hand : bits .and .u32 v 65535 = v % 65536)
    (t1 : (v / 65536 == 0) = false) (t2 : (v % 65536 == 0) = false) (t3 : (v / 65536 == 65535) = true) (w : World) :
    Calls Try.prog 8 #[.int .u32 v] w fun e w' => e = .returned (.bool true) ∧ Grown w w' := by
  go_enter Try.func8, Try.ntmps8
  go_wp2_with fail
  refine (spec_is _ y hy2.out hyl.out _).mono ?_
  rw [HB.out]
  rintro e w' ⟨rfl, rfl⟩
  go_wp2_with fail
  refine (class_32 _ x y m hv.out hx.out hy hyl hum hmm c hc _).mono ?_
  rintro e w' ⟨rfl, rfl⟩
  go_wp2_with (first
    | (go_at_call 16; (with_reducible refine (add12_any _ _).mono ?_); rintro e w' ⟨rfl, rfl⟩)
    | (go_at_call 18; (with_reducible refine (isadd_any _ _).mono ?_); rintro e w' ⟨rfl, rfl⟩)
    | (go_at_call 19; (with_reducible refine (add24_any _ _).mono ?_); rintro e w' ⟨rfl, rfl⟩))
  all_goals
    go_ret
    first
      | exact ⟨ret_bool (half_eq hcz.out (nz0 ‹_›) (by decide)), Grown.refl _⟩
      | exact ⟨ret_bool (half_eq hcz.out (nz1 ‹_› ‹_› ‹_›) (by decide)), Grown.refl _⟩
      | exact ⟨ret_bool (half_eq hcz.out (nz2 ‹_› ‹_› ‹_›) (by decide)), Grown.refl _⟩
      | exact ⟨ret_bool (half_eq hcz.out (nz3 ‹_› ‹_› ‹_› ‹_›) (by decide)), Grown.refl _⟩
      | exact ⟨ret_bool (half_eq hcz.out (nz4 ‹_› ‹_› ‹_› ‹_› rfl) (by decide)), Grown.refl _⟩
      | exact ⟨ret_bool (half_eq hcz.out (nz6 ‹_› ‹_› ‹_› rfl ‹_›) (by decide)), Grown.refl _⟩
      | exact ⟨ret_bool (half_eq hcz.out (nz7 ‹_› ‹_› ‹_› rfl ‹_›) (by decide)), Grown.refl _⟩
set_option maxHeartbeats 2000000 in
theorem half_walk3 (v : Int) (x y m : Nat) (c : Int) (b : Bool) (hv0 : 0 ≤ v) (hv1 : v < 4294967296) (hv : Hid (v = x)) (hx : Hid (x < 4294967296)) (hy : Hid (bits .or .u64 ((x : Int) * 4294967296) (x : Int) = (y : Int))) (hy2 : Hid (bits .or .u64 v (v * 4294967296) = (y : Int))) (hyl : Hid (y < 18446744073709551616))
    (hum : Hid (IntKind.u64.wrap ((-1 - (x : Int)) % 4294967296) = (m : Int))) (hmm : Hid (m < 18446744073709551616)) (HB : Hid (Pl.isB y = b)) (hc : Hid (classZ x (Pl.isB y) (movN x) (movN m) = c))
    (hcz : Hid (c = halfZ v b true)) (hand : bits .and .u32 v 65535 = v % 65536)
    (t1 : (v / 65536 == 0) = false) (t2 : (v % 65536 == 0) = false) (t3 : (v / 65536 == 65535) = false) (t4 : (v % 65536 == 65535) = true) (w : World) :
    Calls Try.prog 8 #[.int .u32 v] w fun e w' => e = .returned (.bool true) ∧ Grown w w' := by
  go_enter Try.func8, Try.ntmps8
  go_wp2_with fail
  refine (spec_is _ y hy2.out hyl.out _).mono ?_
  rw [HB.out]
  rintro e w' ⟨rfl, rfl⟩
  go_wp2_with fail
  refine (class_32 _ x y m hv.out hx.out hy hyl hum hmm c hc _).mono ?_
  rintro e w' ⟨rfl, rfl⟩
  go_wp2_with (first
    | (go_at_call 16; (with_reducible refine (add12_any _ _).mono ?_); rintro e w' ⟨rfl, rfl⟩)
    | (go_at_call 18; (with_reducible refine (isadd_any _ _).mono ?_); rintro e w' ⟨rfl, rfl⟩)
    | (go_at_call 19; (with_reducible refine (add24_any _ _).mono ?_); rintro e w' ⟨rfl, rfl⟩))
  all_goals
    go_ret
    first
      | exact ⟨ret_bool (half_eq hcz.out (nz0 ‹_›) (by decide)), Grown.refl _⟩
      | exact ⟨ret_bool (half_eq hcz.out (nz1 ‹_› ‹_› ‹_›) (by decide)), Grown.refl _⟩
      | exact ⟨ret_bool (half_eq hcz.out (nz2 ‹_› ‹_› ‹_›) (by decide)), Grown.refl _⟩
      | exact ⟨ret_bool (half_eq hcz.out (nz3 ‹_› ‹_› ‹_› ‹_›) (by decide)), Grown.refl _⟩
      | exact ⟨ret_bool (half_eq hcz.out (nz4 ‹_› ‹_› ‹_› ‹_› rfl) (by decide)), Grown.refl _⟩
      | exact ⟨ret_bool (half_eq hcz.out (nz6 ‹_› ‹_› ‹_› rfl ‹_›) (by decide)), Grown.refl _⟩
      | exact ⟨ret_bool (half_eq hcz.out (nz7 ‹_› ‹_› ‹_› rfl ‹_›) (by decide)), Grown.refl _⟩
set_option maxHeartbeats 2000000 in
theorem half_walk4 (v : Int) (x y m : Nat) (c : Int) (b : Bool) (hv0 : 0 ≤ v) (hv1 : v < 4294967296) (hv : Hid (v = x)) (hx : Hid (x < 4294967296)) (hy : Hid (bits .or .u64 ((x : Int) * 4294967296) (x : Int) = (y : Int))) (hy2 : Hid (bits .or .u64 v (v * 4294967296) = (y : Int))) (hyl : Hid (y < 18446744073709551616))
    (hum : Hid (IntKind.u64.wrap ((-1 - (x : Int)) % 4294967296) = (m : Int))) (hmm : Hid (m < 18446744073709551616)) (HB : Hid (Pl.isB y = b)) (hc : Hid (classZ x (Pl.isB y) (movN x) (movN m) = c))
    (hcz : Hid (c = halfZ v b false)) (hand : bits .and .u32 v 65535 = v % 65536)
    (t1 : (v / 65536 == 0) = false) (t2 : (v % 65536 == 0) = false) (t3 : (v / 65536 == 65535) = false) (t4 : (v % 65536 == 65535) = false) (w : World) :
    Calls Try.prog 8 #[.int .u32 v] w fun e w' => e = .returned (.bool true) ∧ Grown w w' := by
  go_enter Try.func8, Try.ntmps8
  go_wp2_with fail
  refine (spec_is _ y hy2.out hyl.out _).mono ?_
  rw [HB.out]
  rintro e w' ⟨rfl, rfl⟩
  go_wp2_with fail
  refine (class_32 _ x y m hv.out hx.out hy hyl hum hmm c hc _).mono ?_
  rintro e w' ⟨rfl, rfl⟩
  go_wp2_with (first
    | (go_at_call 16; (with_reducible refine (add12_any _ _).mono ?_); rintro e w' ⟨rfl, rfl⟩)
    | (go_at_call 18; (with_reducible refine (isadd_any _ _).mono ?_); rintro e w' ⟨rfl, rfl⟩)
    | (go_at_call 19; (with_reducible refine (add24_any _ _).mono ?_); rintro e w' ⟨rfl, rfl⟩))
  all_goals
    go_ret
    first
      | exact ⟨ret_bool (half_eq hcz.out (nz0 ‹_›) (by decide)), Grown.refl _⟩
      | exact ⟨ret_bool (half_eq hcz.out (nz1 ‹_› ‹_› ‹_›) (by decide)), Grown.refl _⟩
      | exact ⟨ret_bool (half_eq hcz.out (nz2 ‹_› ‹_› ‹_›) (by decide)), Grown.refl _⟩
      | exact ⟨ret_bool (half_eq hcz.out (nz3 ‹_› ‹_› ‹_› ‹_›) (by decide)), Grown.refl _⟩
      | exact ⟨ret_bool (half_eq hcz.out (nz5 ‹_› ‹_› ‹_› ‹_› rfl) (by decide)), Grown.refl _⟩
      | exact ⟨ret_bool (half_eq hcz.out (nz8 ‹_› ‹_› ‹_› (by decide) ‹_›) (by decide)), Grown.refl _⟩
      | exact ⟨ret_bool (half_eq hcz.out (nz9 ‹_› ‹_› ‹_› (by decide) ‹_› ‹_›) (by decide)), Grown.refl _⟩
      | exact ⟨ret_bool (half_last hcz.out (nz10 ‹_› ‹_› ‹_› (by decide) ‹_› ‹_›)), Grown.refl _⟩

theorem and32 (v : Int) (h0 : 0 ≤ v) (h1 : v < 4294967296) : bits .and .u32 v 65535 = v % 65536 := by
  obtain ⟨a, rfl⟩ := Int.eq_ofNat_of_zero_le h0
  have := u32_and_nat a 65535 (by omega) (by decide)
  rw [nat_mask16] at this
  exact this

theorem fnClassHalfCandidate_walk (a0 : Int) (w0 : (Lit.int .u32 a0).wf = true) (w : World) :
    Calls Try.prog 8 #[.int .u32 a0] w fun e w' => e = .returned (.bool true) ∧ Grown w w' := by
  obtain ⟨b0, b1⟩ := bounds_u32 w0
  obtain ⟨x, hx⟩ := Int.eq_ofNat_of_zero_le b0
  have hxl : x < 4294967296 := by omega
  obtain ⟨y, hy⟩ : ∃ y, y = x ||| x * 4294967296 := ⟨_, rfl⟩
  have hyl : y < 18446744073709551616 := by rw [hy]; exact Nat.or_lt_two_pow (n := 64) (by omega) (by omega)
  have e : (x : Int) * 4294967296 = ((x * 4294967296 : Nat) : Int) := by omega
  have hf1 : bits .or .u64 ((x : Int) * 4294967296) (x : Int) = (y : Int) := by rw [e, or_nat _ _ (by omega) (by omega), Nat.or_comm, hy]
  have hf2 : bits .or .u64 a0 (a0 * 4294967296) = (y : Int) := by rw [hx]; rw [e, or_nat _ _ (by omega) (by omega), hy]
  obtain ⟨m, hm⟩ : ∃ m, m = 4294967295 - x := ⟨_, rfl⟩
  have hum : IntKind.u64.wrap ((-1 - (x : Int)) % 4294967296) = (m : Int) := by rw [IntKind.wrap_u64]; omega
  have hcz := half_class x (Pl.isB y) (mv32 x) (movN x) (movN m) (mv32_iff x m hxl hm) (by simp [wordB]; omega)
  have hand := and32 a0 b0 (by omega)
  rw [← hx] at hcz
  have go1 := fun (q : Bool) (hq : mv32 x = q) => Lib.hid (show classZ a0 (Pl.isB y) (movN x) (movN m) = halfZ a0 (Pl.isB y) q by rw [hcz, hq])
  have hcc := Lib.hid (show classZ x (Pl.isB y) (movN x) (movN m) = classZ a0 (Pl.isB y) (movN x) (movN m) by rw [hx])
  have hmv : ∀ q : Bool, (decide (x / 65536 = 0 ∨ x % 65536 = 0 ∨ x / 65536 = 65535 ∨ x % 65536 = 65535) = q) → mv32 x = q := fun q h => h
  by_cases t1 : x / 65536 = 0
  · exact half_walk0 a0 x y m _ _ b0 (by omega) (Lib.hid hx) (Lib.hid hxl) (Lib.hid hf1) (Lib.hid hf2) (Lib.hid hyl) (Lib.hid hum) (Lib.hid (by omega)) (Lib.hid rfl) hcc (go1 true (hmv _ (by simp [t1]))) hand (by simp only [beq_iff_eq]; omega) w
  by_cases t2 : x % 65536 = 0
  · exact half_walk1 a0 x y m _ _ b0 (by omega) (Lib.hid hx) (Lib.hid hxl) (Lib.hid hf1) (Lib.hid hf2) (Lib.hid hyl) (Lib.hid hum) (Lib.hid (by omega)) (Lib.hid rfl) hcc (go1 true (hmv _ (by simp [t2]))) hand (by simp only [beq_eq_false_iff_ne, ne_eq]; omega) (by simp only [beq_iff_eq]; omega) w
  by_cases t3 : x / 65536 = 65535
  · exact half_walk2 a0 x y m _ _ b0 (by omega) (Lib.hid hx) (Lib.hid hxl) (Lib.hid hf1) (Lib.hid hf2) (Lib.hid hyl) (Lib.hid hum) (Lib.hid (by omega)) (Lib.hid rfl) hcc (go1 true (hmv _ (by simp [t3]))) hand (by simp only [beq_eq_false_iff_ne, ne_eq]; omega) (by simp only [beq_eq_false_iff_ne, ne_eq]; omega) (by simp only [beq_iff_eq]; omega) w
  by_cases t4 : x % 65536 = 65535
  · exact half_walk3 a0 x y m _ _ b0 (by omega) (Lib.hid hx) (Lib.hid hxl) (Lib.hid hf1) (Lib.hid hf2) (Lib.hid hyl) (Lib.hid hum) (Lib.hid (by omega)) (Lib.hid rfl) hcc (go1 true (hmv _ (by simp [t4]))) hand (by simp only [beq_eq_false_iff_ne, ne_eq]; omega) (by simp only [beq_eq_false_iff_ne, ne_eq]; omega) (by simp only [beq_eq_false_iff_ne, ne_eq]; omega) (by simp only [beq_iff_eq]; omega) w
  · exact half_walk4 a0 x y m _ _ b0 (by omega) (Lib.hid hx) (Lib.hid hxl) (Lib.hid hf1) (Lib.hid hf2) (Lib.hid hyl) (Lib.hid hum) (Lib.hid (by omega)) (Lib.hid rfl) hcc (go1 false (hmv _ (by simp [t1, t2, t3, t4]))) hand (by simp only [beq_eq_false_iff_ne, ne_eq]; omega) (by simp only [beq_eq_false_iff_ne, ne_eq]; omega) (by simp only [beq_eq_false_iff_ne, ne_eq]; omega) (by simp only [beq_eq_false_iff_ne, ne_eq]; omega) w
end Go.Proofs.Ytfjegjdphfppkaa
