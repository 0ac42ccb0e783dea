/- The contracts of isPPC64DoublewordRotateMask, of the thin functions round it, and of the reference's IsRing and Mask64. -/
import Derived.Test.YticennjldlbpfaaDoorRing
import Derived.Test.YticennjldlbpfaaDoorOnesWalks
namespace Go.Proofs.YticennjldlbpfaaDoor
open Go.RowKit



theorem maskGo_lt (d i x : Nat) (hi : i < 64) (hx : x < 18446744073709551616) : Pl.maskGo 64 d i x < 18446744073709551616 := by
  induction d generalizing i x with
  | zero =>
    exact Nat.or_lt_two_pow (n := 64) hx (Nat.pow_lt_pow_right (by omega) (by omega))
  | succ d ih =>
    exact ih _ _ (Nat.mod_lt _ (by omega)) (Nat.or_lt_two_pow (n := 64) hx (Nat.pow_lt_pow_right (by omega) (by omega)))

theorem mask_or_form (x i : Nat) (hx : x < 18446744073709551616) (hi : i < 64) : bits .or .u64 (x : Int) (IntKind.u64.wrap (2 ^ (63 - i))) = ((x ||| 2 ^ (63 - i) : Nat) : Int) := by
  have hp : 2 ^ (63 - i) < 18446744073709551616 := Nat.pow_lt_pow_right (a := 2) (m := 63 - i) (n := 64) (by omega) (by omega)
  rw [two_pow_cast, u64_nat, Nat.mod_eq_of_lt hp, u64_or_nat _ _ hx hp]

theorem mask64_any (f l : Nat) (hf : f < 64) (hl : l < 64) (w : World) :
    Calls Tryd.prog 15 #[.int .i64 f, .int .i64 l] w fun e w' => e = .returned (.int .u64 (Pl.mask 64 f l)) ∧ w = w' := by
  go_enter Tryd.func15, Tryd.ntmps15
  go_wp2
  go_loop [5, 6] (fun x i => ∃ a j d : Nat, a < 18446744073709551616 ∧ j < 64 ∧ d = (l + 64 - j) % 64 ∧ x = .int .u64 a ∧ i = .int .i64 j ∧ Pl.maskGo 64 d j a = Pl.mask 64 f l) (fun _ i => (l + 64 - (intOf i).toNat) % 64)
  case atStart => exact ⟨0, f, _, by omega, hf, rfl, rfl, rfl, rfl⟩
  case round =>
    obtain ⟨a, j, d, ha, hj, hd, rfl, rfl, hg⟩ := hrel
    have HG := Lib.hid hg; clear hg
    have HD := Lib.hid hd; clear hd
    have ho := mask_or_form a j ha hj
    have hlt : a ||| 2 ^ (63 - j) < 18446744073709551616 := Nat.or_lt_two_pow (n := 64) ha (Nat.pow_lt_pow_right (by omega) (by omega))
    by_cases e : j = l
    · subst e
      go_wp2
      go_ret
      have h1 := HG.out
      rw [HD.out, Nat.add_sub_cancel_left] at h1
      exact ⟨ret_int (congrArg Nat.cast h1), rfl⟩
    · have e1 : ((j : Int) == (l : Int)) = false := by simp; omega
      have hs : d = (l + 64 - (j + 1) % 64) % 64 + 1 := by rw [HD.out]; omega
      have h1 := HG.out
      rw [hs] at h1
      have H1 := Lib.hid h1
      clear h1 hs
      go_wp2
      go_round
      case rel => exact ⟨_, (j + 1) % 64, _, hlt, by omega, rfl, rfl, by go_num, H1.out⟩
      case measure => simp [intOf]; omega
end Go.Proofs.YticennjldlbpfaaDoor
