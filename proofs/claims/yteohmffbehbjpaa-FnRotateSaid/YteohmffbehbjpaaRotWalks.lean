/- The contracts of isPPC64DoublewordRotateMask, of the thin functions round it, and of the reference's IsRing and Mask64. -/
import Derived.Test.YteohmffbehbjpaaRing
import Derived.Test.YteohmffbehbjpaaOnesWalks
namespace Go.Proofs.Yteohmffbehbjpaa
open Go.RowKit

theorem isrot_any (v : Int) (u : Nat) (hv : IntKind.u64.wrap v = u) (hu : u < 18446744073709551616) (w : World) :
    Calls Try.prog 15 #[.int .i64 v] w fun e w' => e = .returned (.bool (Pl.rotB 64 u)) ∧ w = w' := by
  have hx := Lib.hid hu
  obtain ⟨n, hn⟩ : ∃ n, n = 18446744073709551615 - u := ⟨_, rfl⟩
  have hsg := u64_unsigned
  have hnot : bits .xor .u64 IntKind.u64.max (u : Int) = (n : Int) := by rw [hn]; exact not_max u hu
  have f1 := and_up_form u hu
  have f2 := and_up_form n (by omega)
  have HN := Lib.hid hn; clear hn hu
  have fin : ∀ b1 b2 b3 : Bool, (u &&& Pl.up 64 u == 0) = b1 → (n &&& Pl.up 64 n == 0) = b2 → (u != 0) = b3 → ((b1 || b2) && b3) = Pl.rotB 64 u := by
    rintro _ _ _ rfl rfl rfl
    rw [HN.out]; rfl
  have FIN := Lib.hid fin; clear fin
  have e3 : ((u : Int) != 0) = (u != 0) := by rw [Bool.eq_iff_iff]; simp
  cases h1 : (u &&& Pl.up 64 u == 0) <;> cases h2 : (n &&& Pl.up 64 n == 0) <;> cases h3 : (u != 0)
  all_goals
    rw [h1] at f1
    rw [h2] at f2
    rw [h3] at e3
    have H := Lib.hid (FIN.out _ _ _ h1 h2 h3)
    clear h1 h2 h3 FIN HN
    go_enter Try.func15, Try.ntmps15
    go_wp2
    go_ret
    exact ⟨ret_bool H.out, rfl⟩

theorem rotate_any (v : Int) (u : Nat) (hv : IntKind.u64.wrap v = u) (hu : u < 18446744073709551616) (w : World) :
    Calls Try.prog 8 #[.int .i64 v] w fun e w' => e = .returned (.bool (Pl.rotB 64 u)) ∧ w = w' := by
  have HV := Lib.hid hv; clear hv
  go_enter Try.func8, Try.ntmps8
  go_wp2_with (first | (go_at_call 15; refine (isrot_any _ u HV.out hu _).mono ?_; rintro e w' ⟨rfl, rfl⟩) | go_in)
  go_ret
  exact ⟨rfl, rfl⟩

theorem isring_any (z : Int) (u : Nat) (hz : z = u) (hu : u < 18446744073709551616) (w : World) :
    Calls Try.prog 9 #[.int .u64 z] w fun e w' => e = .returned (.bool (Pl.ringS 64 u)) ∧ w = w' := by
  subst hz
  obtain ⟨n, hn⟩ : ∃ n, n = 18446744073709551615 - u := ⟨_, rfl⟩
  have hsg := u64_unsigned
  have hnot : bits .xor .u64 IntKind.u64.max (u : Int) = (n : Int) := by rw [hn]; exact not_max u hu
  have HN := Lib.hid hn; clear hn hu
  by_cases h0 : u = 0
  · subst h0
    go_enter Try.func9, Try.ntmps9
    go_wp2_with fail
    go_ret
    exact ⟨ret_bool rfl, rfl⟩
  have e0 : ((u : Int) != 0) = true := by simp; omega
  have k0 := Lib.hid (show (u != 0) = true by simpa using h0)
  cases h1 : Pl.runB 64 u
  · by_cases h2 : u = 18446744073709551615
    · exfalso
      subst h2
      have : Pl.runB 64 18446744073709551615 = true := (Pl.runB_iff 64 _).2 ⟨64, 0, by omega, by omega, by decide⟩
      rw [this] at h1; cases h1
    have e2 : ((u : Int) != 18446744073709551615) = true := by simp; omega
    have k2 := Lib.hid (show (u != 2 ^ 64 - 1) = true by simpa using h2)
    clear h0 h2
    go_enter Try.func9, Try.ntmps9
    go_wp2_with fail
    refine (isrun_any _ u rfl _).mono ?_
    rw [h1]
    rintro e w' ⟨rfl, rfl⟩
    go_wp2_with fail
    refine (isrun_any _ n rfl _).mono ?_
    rintro e w' ⟨rfl, rfl⟩
    go_wp2_with fail
    go_ret
    exact ⟨ret_bool (by rw [HN.out]; unfold Pl.ringS; rw [k0.out, h1, k2.out]; rfl), rfl⟩
  · have H1 := Lib.hid h1; clear h1
    clear h0
    go_enter Try.func9, Try.ntmps9
    go_wp2_with fail
    refine (isrun_any _ u rfl _).mono ?_
    rw [H1.out]
    rintro e w' ⟨rfl, rfl⟩
    go_wp2_with fail
    go_ret
    exact ⟨ret_bool (by unfold Pl.ringS; rw [k0.out, H1.out]; rfl), rfl⟩

theorem maskGo_lt (d i x : Nat) (hi : i < 64) (hx : x < 18446744073709551616) : Pl.maskGo 64 d i x < 18446744073709551616 := by
  induction d generalizing i x with
  | zero =>
    exact Nat.or_lt_two_pow (n := 64) hx (Nat.pow_lt_pow_right (by omega) (by omega))
  | succ d ih =>
    exact ih _ _ (Nat.mod_lt _ (by omega)) (Nat.or_lt_two_pow (n := 64) hx (Nat.pow_lt_pow_right (by omega) (by omega)))

theorem mask_or_form (x i : Nat) (hx : x < 18446744073709551616) (hi : i < 64) : bits .or .u64 (x : Int) (IntKind.u64.wrap (2 ^ (63 - i))) = ((x ||| 2 ^ (63 - i) : Nat) : Int) := by
  have hp : 2 ^ (63 - i) < 18446744073709551616 := Nat.pow_lt_pow_right (a := 2) (m := 63 - i) (n := 64) (by omega) (by omega)
  rw [two_pow_cast, u64_nat, Nat.mod_eq_of_lt hp, u64_or_nat _ _ hx hp]

theorem mask64_any (f l : Nat) (hf : f < 64) (hl : l < 64) (w : World) :
    Calls Try.prog 10 #[.int .i64 f, .int .i64 l] w fun e w' => e = .returned (.int .u64 (Pl.mask 64 f l)) ∧ w = w' := by
  go_enter Try.func10, Try.ntmps10
  go_wp2
  go_loop [5, 6] (fun x i => ∃ a j d : Nat, a < 18446744073709551616 ∧ j < 64 ∧ d = (l + 64 - j) % 64 ∧ x = .int .u64 a ∧ i = .int .i64 j ∧ Pl.maskGo 64 d j a = Pl.mask 64 f l) (fun _ i => (l + 64 - (intOf i).toNat) % 64)
  case atStart => exact ⟨0, f, _, by omega, hf, rfl, rfl, rfl, rfl⟩
  case round =>
    obtain ⟨a, j, d, ha, hj, hd, rfl, rfl, hg⟩ := hrel
    have HG := Lib.hid hg; clear hg
    have HD := Lib.hid hd; clear hd
    have ho := mask_or_form a j ha hj
    have hlt : a ||| 2 ^ (63 - j) < 18446744073709551616 := Nat.or_lt_two_pow (n := 64) ha (Nat.pow_lt_pow_right (by omega) (by omega))
    by_cases e : j = l
    · subst e
      go_wp2
      go_ret
      have h1 := HG.out
      rw [HD.out, Nat.add_sub_cancel_left] at h1
      exact ⟨ret_int (congrArg Nat.cast h1), rfl⟩
    · have e1 : ((j : Int) == (l : Int)) = false := by simp; omega
      have hs : d = (l + 64 - (j + 1) % 64) % 64 + 1 := by rw [HD.out]; omega
      have h1 := HG.out
      rw [hs] at h1
      have H1 := Lib.hid h1
      clear h1 hs
      go_wp2
      go_round
      case rel => exact ⟨_, (j + 1) % 64, _, hlt, by omega, rfl, rfl, by go_num, H1.out⟩
      case measure => simp [intOf]; omega
end Go.Proofs.Yteohmffbehbjpaa
