/- The contracts of the reference's IsPeriod, IsMade and IsBitcon. -/
import Derived.Test.YtnohdfdjhhmmdaaMadeWalks
namespace Go.Proofs.Ytnohdfdjhhmmdaa
open Go.RowKit

def MadeZ (a b c : Int) : Prop := (a = 2 ∨ a = 4 ∨ a = 8 ∨ a = 16 ∨ a = 32 ∨ a = 64) ∧ 1 ≤ b ∧ b < a ∧ 0 ≤ c ∧ c < a

theorem madeZ_nat {a b c : Int} (h : MadeZ a b c) : ∃ p n k : Nat, a = p ∧ b = n ∧ c = k ∧ Pl.IsMade p n k := by
  obtain ⟨h1, h2, h3, h4, h5⟩ := h
  refine ⟨a.toNat, b.toNat, c.toNat, by omega, by omega, by omega, ?_, by omega, by omega, by omega⟩
  rcases h1 with rfl | rfl | rfl | rfl | rfl | rfl <;> decide

def perB (a : Int) : Bool := decide (a = 2 ∨ a = 4 ∨ a = 8 ∨ a = 16 ∨ a = 32 ∨ a = 64)
theorem period_any (a : Int) (w : World) : Calls Try.prog 22 #[.int .i64 a] w fun e w' => e = .returned (.bool (perB a)) ∧ w = w' := by
  by_cases h : a = 2 ∨ a = 4 ∨ a = 8 ∨ a = 16 ∨ a = 32 ∨ a = 64
  · have e : perB a = true := by simp [perB, h]
    rw [e]
    clear e
    rcases h with rfl | rfl | rfl | rfl | rfl | rfl
    all_goals
      go_enter Try.func22, Try.ntmps22
      go_wp2
      go_ret
      exact ⟨rfl, rfl⟩
  · have e : perB a = false := by simp [perB]; omega
    rw [e]
    clear e
    have e1 : (a == 2) = false := by simp; omega
    have e2 : (a == 4) = false := by simp; omega
    have e3 : (a == 8) = false := by simp; omega
    have e4 : (a == 16) = false := by simp; omega
    have e5 : (a == 32) = false := by simp; omega
    have e6 : (a == 64) = false := by simp; omega
    clear h
    go_enter Try.func22, Try.ntmps22
    go_wp2
    go_ret
    exact ⟨rfl, rfl⟩

theorem ismade_yes (a b c : Int) (h : MadeZ a b c) (w : World) : Calls Try.prog 16 #[.int .i64 a, .int .i64 b, .int .i64 c] w fun e w' => e = .returned (.bool true) ∧ w = w' := by
  obtain ⟨h1, h2, h3, h4, h5⟩ := h
  have hp := Lib.hid (show perB a = true by simp [perB, h1])
  clear h1
  go_enter Try.func16, Try.ntmps16
  go_wp2_with fail
  refine (period_any _ _).mono ?_
  rw [hp.out]
  rintro e w' ⟨rfl, rfl⟩
  go_wp2_with fail
  go_ret
  exact ⟨rfl, rfl⟩
theorem ismade_no (a b c : Int) (h : ¬ MadeZ a b c) (w : World) : Calls Try.prog 16 #[.int .i64 a, .int .i64 b, .int .i64 c] w fun e w' => e = .returned (.bool false) ∧ w = w' := by
  by_cases h1 : a = 2 ∨ a = 4 ∨ a = 8 ∨ a = 16 ∨ a = 32 ∨ a = 64
  · have hp := Lib.hid (show perB a = true by simp [perB, h1])
    have h' : ¬ (1 ≤ b ∧ b < a ∧ 0 ≤ c ∧ c < a) := fun g => h ⟨h1, g⟩
    clear h1 h
    by_cases g1 : 1 ≤ b
    · by_cases g2 : b < a
      · by_cases g3 : 0 ≤ c
        · have g4 : ¬ c < a := fun g4 => h' ⟨g1, g2, g3, g4⟩
          clear h'
          go_enter Try.func16, Try.ntmps16
          go_wp2_with fail
          refine (period_any _ _).mono ?_
          rw [hp.out]
          rintro e w' ⟨rfl, rfl⟩
          go_wp2_with fail
          go_ret
          exact ⟨ret_bool (by simpa using g4), rfl⟩
        · clear h'
          go_enter Try.func16, Try.ntmps16
          go_wp2_with fail
          refine (period_any _ _).mono ?_
          rw [hp.out]
          rintro e w' ⟨rfl, rfl⟩
          go_wp2_with fail
          go_ret
          exact ⟨rfl, rfl⟩
      · clear h'
        go_enter Try.func16, Try.ntmps16
        go_wp2_with fail
        refine (period_any _ _).mono ?_
        rw [hp.out]
        rintro e w' ⟨rfl, rfl⟩
        go_wp2_with fail
        go_ret
        exact ⟨rfl, rfl⟩
    · clear h'
      go_enter Try.func16, Try.ntmps16
      go_wp2_with fail
      refine (period_any _ _).mono ?_
      rw [hp.out]
      rintro e w' ⟨rfl, rfl⟩
      go_wp2_with fail
      go_ret
      exact ⟨rfl, rfl⟩
  · have hp := Lib.hid (show perB a = false by simp [perB]; omega)
    clear h1 h
    go_enter Try.func16, Try.ntmps16
    go_wp2_with fail
    refine (period_any _ _).mono ?_
    rw [hp.out]
    rintro e w' ⟨rfl, rfl⟩
    go_wp2_with fail
    go_ret
    exact ⟨rfl, rfl⟩

def NoB (x c m : Nat) : Prop := ∀ b, b < c → Pl.rotN b m ≠ x
def NoN (x p k : Nat) : Prop := ∀ n, 1 ≤ n → n < k → NoB x p (Pl.made p n 0)
def NoP (x p : Nat) : Prop := ∀ q ∈ Pl.periods, q < p → NoN x q q
def IsPer (p : Nat) : Prop := p ∈ Pl.periods ∨ p = 128

theorem rot_lt (k x : Nat) (_hk : k < 64) (hx : x < 18446744073709551616) : Pl.rot k x < 18446744073709551616 := by
  unfold Pl.rot
  apply Nat.or_lt_two_pow (n := 64)
  · rw [Nat.shiftRight_eq_div_pow]; exact Nat.lt_of_le_of_lt (Nat.div_le_self _ _) hx
  · exact Nat.mod_lt _ (by decide)
theorem rotN_lt (c x : Nat) (hx : x < 18446744073709551616) : Pl.rotN c x < 18446744073709551616 := by
  induction c generalizing x with
  | zero => exact hx
  | succ c ih => exact ih _ (rot_lt 1 x (by omega) hx)
theorem rot1_form (x : Nat) (hx : x < 18446744073709551616) : bits .or .u64 ((x : Int) / 2) (IntKind.u64.wrap ((x : Int) * 9223372036854775808)) = ((Pl.rot 1 x : Nat) : Int) :=
  rot_form 1 x _ _ (by decide) (by decide) hx

theorem per_next {p : Nat} (h : p ∈ Pl.periods) : IsPer (p * 2) ∧ p ≤ 64 := by
  simp only [Pl.periods, List.mem_cons, List.not_mem_nil, or_false] at h
  rcases h with rfl | rfl | rfl | rfl | rfl | rfl
  · exact ⟨.inl (by decide), by omega⟩
  · exact ⟨.inl (by decide), by omega⟩
  · exact ⟨.inl (by decide), by omega⟩
  · exact ⟨.inl (by decide), by omega⟩
  · exact ⟨.inl (by decide), by omega⟩
  · exact ⟨.inr rfl, by omega⟩
theorem per_gap {p q : Nat} (h : p ∈ Pl.periods) (hq : q ∈ Pl.periods) (hl : q < p * 2) : q < p ∨ q = p := by
  simp only [Pl.periods, List.mem_cons, List.not_mem_nil, or_false] at h hq
  omega
theorem nop_next (x p : Nat) (h : p ∈ Pl.periods) (hn : NoP x p) (hk : NoN x p p) : NoP x (p * 2) := by
  intro q hq hl
  rcases per_gap h hq hl with g | rfl
  · exact hn q hq g
  · exact hk
theorem non_next (x p k : Nat) (hn : NoN x p k) (hb : NoB x p (Pl.made p k 0)) : NoN x p (k + 1) := by
  intro n h1 h2
  by_cases e : n = k
  · subst e; exact hb
  · exact hn n h1 (by omega)
theorem nob_next (x c m : Nat) (hn : NoB x c m) (h : Pl.rotN c m ≠ x) : NoB x (c + 1) m := by
  intro b hb
  by_cases e : b = c
  · subst e; exact h
  · exact hn b (by omega)
theorem spec_yes (x p k c : Nat) (hp : p ∈ Pl.periods) (h1 : 1 ≤ k) (h2 : k < p) (hc : c < p) (h : Pl.rotN c (Pl.made p k 0) = x) : true = Pl.specB x := by
  refine ((Pl.specB_iff x).2 ⟨p, k, c, ⟨hp, h1, h2, hc⟩, ?_⟩).symm
  rw [← h]
  exact of_decide_eq_true (by simpa using Pl.allMade_at Pl.chk_rotN (p := p) (n := k) (b := c) ⟨hp, h1, h2, hc⟩)
theorem spec_no (x : Nat) (hn : NoP x 128) : false = Pl.specB x := by
  cases h : Pl.specB x with
  | false => rfl
  | true =>
    obtain ⟨p, n, b, ⟨hp, h1, h2, h3⟩, e⟩ := (Pl.specB_iff x).1 h
    have hr := Pl.allMade_at Pl.chk_rotN (p := p) (n := n) (b := b) ⟨hp, h1, h2, h3⟩
    have hr2 : Pl.rotN b (Pl.made p n 0) = Pl.made p n b := by simpa using hr
    have hl := (per_fuel hp).2.1
    exact absurd (hr2.trans e.symm) (hn p hp (by omega) n h1 h2 b h3)

set_option maxHeartbeats 400000 in
theorem spec_bitcon_any (z : Int) (x : Nat) (hz : z = x) (w : World) :
    Calls Try.prog 15 #[.int .u64 z] w fun e w' => e = .returned (.bool (Pl.specB x)) ∧ w = w' := by
  subst hz
  go_enter Try.func15, Try.ntmps15
  go_wp2
  go_loop [3] (fun v => ∃ p : Nat, IsPer p ∧ 2 ≤ p ∧ p ≤ 128 ∧ v = .int .i64 p ∧ NoP x p) (fun v => 128 - (intOf v).toNat)
  case atStart => exact ⟨2, .inl (by decide), by omega, by omega, rfl, fun q hq hl => by have := (per_fuel hq).1; omega⟩
  case round =>
    obtain ⟨p, hper, hp1, hp2, rfl, hno⟩ := hrel
    by_cases hlt : p ≤ 64
    · have hp : p ∈ Pl.periods := by
        rcases hper with h | h
        · exact h
        · omega
      have HP := Lib.hid hp
      clear hp hper
      go_wp2
      go_loop [4] (fun v => ∃ k : Nat, 1 ≤ k ∧ k ≤ p ∧ v = .int .i64 k ∧ NoN x p k) (fun v => p - (intOf v).toNat)
      case atStart => exact ⟨1, by omega, by omega, rfl, fun n h1 h2 => by omega⟩
      case round =>
        obtain ⟨k, hk1, hk2, rfl, hnk⟩ := hrel
        by_cases hkl : k < p
        · have hm := Lib.hid (of_decide_eq_true (Pl.allMade_at Pl.chk_lt (p := p) (n := k) (b := 0) ⟨HP.out, hk1, hkl, by omega⟩))
          go_wp2_with fail
          refine (made_any p k 0 _ rfl HP.out hkl (by omega) _).mono ?_
          rintro e w' ⟨rfl, rfl⟩
          go_wp2_with fail
          go_loop [5, 6] (fun v i => ∃ c m : Nat, c ≤ p ∧ m < 18446744073709551616 ∧ m = Pl.rotN c (Pl.made p k 0) ∧ v = .int .u64 m ∧ i = .int .i64 c ∧ NoB x c (Pl.made p k 0)) (fun _ i => p - (intOf i).toNat)
          case atStart => exact ⟨0, _, by omega, hm.out, rfl, rfl, rfl, fun b h => by omega⟩
          case round =>
            obtain ⟨c, m, hc, hml, hmr, rfl, rfl, hnb⟩ := hrel
            have HM := Lib.hid hmr; clear hmr
            have hf := rot1_form m hml
            by_cases hcl : c < p
            · by_cases e : m = x
              · have e1 : ((m : Int) == (x : Int)) = true := by simp [e]
                have HE := Lib.hid e; clear e
                go_wp2
                go_ret
                exact ⟨ret_bool (spec_yes x p k c HP.out hk1 hkl hcl (HM.out.symm.trans HE.out)), rfl⟩
              · have e1 : ((m : Int) == (x : Int)) = false := by simp; omega
                have hn := Lib.hid (nob_next x c _ hnb (HM.out ▸ e))
                have hr := Lib.hid (show Pl.rot 1 m = Pl.rotN (c + 1) (Pl.made p k 0) by rw [rotN_succ, ← HM.out])
                have hl := Lib.hid (rot_lt 1 m (by omega) hml)
                clear e
                go_wp2
                go_round
                case rel => exact ⟨c + 1, _, by omega, hl.out, hr.out, rfl, by go_num, hn.out⟩
                case measure => simp [intOf]; omega
            · obtain rfl : c = p := by omega
              go_wp2
              go_round
              case rel => exact ⟨k + 1, by omega, by omega, by go_num, non_next x c k hnk hnb⟩
              case measure => simp [intOf]; omega
        · obtain rfl : k = p := by omega
          go_wp2
          go_round
          case rel => exact ⟨k * 2, (per_next HP.out).1, by omega, by omega, by go_num, nop_next x k HP.out hno hnk⟩
          case measure => simp [intOf]; omega
    · have hp : p = 128 := by
        rcases hper with h | h
        · have := (per_fuel h).2.1; omega
        · exact h
      have hn := Lib.hid (spec_no x (hp ▸ hno))
      clear hp hper
      go_wp2
      go_ret
      exact ⟨ret_bool hn.out, rfl⟩
end Go.Proofs.Ytnohdfdjhhmmdaa
