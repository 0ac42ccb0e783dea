/- The contracts of decodeMask32, of the thin functions round it, and of the reference's Mask32 and IsRing32. -/
import Derived.Test.YticennjldlbpfaaDoorU32
import Derived.Test.YticennjldlbpfaaDoorRing
namespace Go.Proofs.YticennjldlbpfaaDoor
open Go.RowKit
set_option linter.unusedVariables false

def end32 (b : Nat) : Int := bits .and .u32 ((32 - (b : Int) - 1) % 4294967296) 31

section
variable (u n a b c d : Nat) (r s z : Bool) (hu : Hid (u < 4294967296)) (hnot : bits .xor .u32 IntKind.u32.max (u : Int) = (n : Int)) (hn : Hid (n < 4294967296))
    (hA : Hid (Lib.bitLen u = a)) (hB : Hid (Lib.ctz 32 u = b)) (hC : Hid (Lib.bitLen n = c)) (hD : Hid (Lib.ctz 32 n = d)) (la : a ≤ 32) (lb : b ≤ 32) (lc : c ≤ 32) (ld : d ≤ 32)
    (hr : (bits .and .u32 (u : Int) ((bits .and .u32 (u : Int) (-(u : Int) % 4294967296) + (u : Int)) % 4294967296) == 0) = r)
    (hs : (bits .and .u32 (n : Int) ((bits .and .u32 (n : Int) (-(n : Int) % 4294967296) + (n : Int)) % 4294967296) == 0) = s) (hz : ((u : Int) != 0) = z)
include hu hnot hn hA hB hC hD la lb lc ld hr hs hz

theorem dec32_swap (e1 : (32 - (a : Int) == 0) = true) (e2 : (32 - (b : Int) == 32) = true) (w : World) (hT : Hid (Tab32 w)) :
    Calls Tryd.prog 19 #[.int .u32 u] w fun e w' => e = .returned (.tuple #[.int .u32 (32 - (d : Int)), .int .u32 (end32 c), .bool ((r || s) && z)]) ∧ w = w' := by
  have hsg := u32_unsigned
  cases r <;> cases s <;> cases z
  all_goals
    go_enter Tryd.func19, Tryd.ntmps19
    go_wp2_with fail
    refine (lz32_nat _ u a rfl hu.out hA.out _).mono ?_
    rintro e w' ⟨rfl, rfl⟩
    go_wp2_with fail
    refine (tz32_nat _ u b rfl hu.out hB.out _ hT).mono ?_
    rintro e w' ⟨rfl, rfl⟩
    go_wp2_with fail
    refine (lz32_nat _ n c rfl hn.out hC.out _).mono ?_
    rintro e w' ⟨rfl, rfl⟩
    go_wp2_with fail
    refine (tz32_nat _ n d rfl hn.out hD.out _ hT).mono ?_
    rintro e w' ⟨rfl, rfl⟩
    go_wp2_with fail
    go_ret3
    exact ⟨rfl, rfl⟩
theorem dec32_keep1 (e1 : (32 - (a : Int) == 0) = false) (w : World) (hT : Hid (Tab32 w)) :
    Calls Tryd.prog 19 #[.int .u32 u] w fun e w' => e = .returned (.tuple #[.int .u32 (32 - (a : Int)), .int .u32 (end32 b), .bool ((r || s) && z)]) ∧ w = w' := by
  have hsg := u32_unsigned
  cases r <;> cases s <;> cases z
  all_goals
    go_enter Tryd.func19, Tryd.ntmps19
    go_wp2_with fail
    refine (lz32_nat _ u a rfl hu.out hA.out _).mono ?_
    rintro e w' ⟨rfl, rfl⟩
    go_wp2_with fail
    refine (tz32_nat _ u b rfl hu.out hB.out _ hT).mono ?_
    rintro e w' ⟨rfl, rfl⟩
    go_wp2_with fail
    refine (lz32_nat _ n c rfl hn.out hC.out _).mono ?_
    rintro e w' ⟨rfl, rfl⟩
    go_wp2_with fail
    refine (tz32_nat _ n d rfl hn.out hD.out _ hT).mono ?_
    rintro e w' ⟨rfl, rfl⟩
    go_wp2_with fail
    go_ret3
    exact ⟨rfl, rfl⟩
theorem dec32_keep2 (e1 : (32 - (a : Int) == 0) = true) (e2 : (32 - (b : Int) == 32) = false) (w : World) (hT : Hid (Tab32 w)) :
    Calls Tryd.prog 19 #[.int .u32 u] w fun e w' => e = .returned (.tuple #[.int .u32 (32 - (a : Int)), .int .u32 (end32 b), .bool ((r || s) && z)]) ∧ w = w' := by
  have hsg := u32_unsigned
  cases r <;> cases s <;> cases z
  all_goals
    go_enter Tryd.func19, Tryd.ntmps19
    go_wp2_with fail
    refine (lz32_nat _ u a rfl hu.out hA.out _).mono ?_
    rintro e w' ⟨rfl, rfl⟩
    go_wp2_with fail
    refine (tz32_nat _ u b rfl hu.out hB.out _ hT).mono ?_
    rintro e w' ⟨rfl, rfl⟩
    go_wp2_with fail
    refine (lz32_nat _ n c rfl hn.out hC.out _).mono ?_
    rintro e w' ⟨rfl, rfl⟩
    go_wp2_with fail
    refine (tz32_nat _ n d rfl hn.out hD.out _ hT).mono ?_
    rintro e w' ⟨rfl, rfl⟩
    go_wp2_with fail
    go_ret3
    exact ⟨rfl, rfl⟩
end

/-- Whether a mask has both its highest bit and its lowest one. -/
def both32 (u : Nat) : Bool := decide (Lib.bitLen u = 32) && decide (Lib.ctz 32 u = 0)
def decA (u : Nat) : Nat := if both32 u = true then 32 - Lib.ctz 32 (4294967295 - u) else 32 - Lib.bitLen u
def decB (u : Nat) : Nat := if both32 u = true then (63 - Lib.bitLen (4294967295 - u)) % 32 else (63 - Lib.ctz 32 u) % 32

theorem chkEnd32 : ((List.range 33).all fun b => end32 b == (((63 - b) % 32 : Nat) : Int)) = true := by decide +kernel
theorem end32_at (b : Nat) (hb : b ≤ 32) : end32 b = (((63 - b) % 32 : Nat) : Int) := by
  have := List.all_eq_true.1 chkEnd32 b (List.mem_range.2 (by omega))
  rwa [beq_iff_eq] at this

theorem bitLenAux_pow (f x k : Nat) (h : x < 2 ^ k) : Lib.bitLenAux f x ≤ k := by
  induction f generalizing x k with
  | zero => exact Nat.zero_le _
  | succ f ih =>
    show (if x = 0 then 0 else 1 + Lib.bitLenAux f (x / 2)) ≤ _
    split
    · omega
    · rename_i h0
      cases k with
      | zero => simp at h; omega
      | succ k =>
        have := ih (x / 2) k (by rw [Nat.pow_succ] at h; omega)
        omega
theorem bitLen32 (x : Nat) (h : x < 4294967296) : Lib.bitLen x ≤ 32 := bitLenAux_pow _ x 32 h
theorem ctz32_le (x : Nat) (hx : x < 4294967296) : Lib.ctz 32 x ≤ 32 := by
  by_cases h : x = 0
  · subst h; decide
  · exact Nat.le_of_lt (Lib.lowest_bit 32 x h hx).2


theorem dec32_any (u : Nat) (hu : u < 4294967296) (w : World) (hT : Hid (Tab32 w)) :
    Calls Tryd.prog 19 #[.int .u32 u] w fun e w' => e = .returned (.tuple #[.int .u32 (decA u : Nat), .int .u32 (decB u : Nat), .bool (Pl.rotB 32 u)]) ∧ w = w' := by
  have hn : 4294967295 - u < 4294967296 := by omega
  have hr : (((u &&& Pl.up 32 u == 0) || ((4294967295 - u) &&& Pl.up 32 (4294967295 - u) == 0)) && (u != 0)) = Pl.rotB 32 u := rfl
  have hz : ((u : Int) != 0) = (u != 0) := by rw [Bool.eq_iff_iff]; simp
  have l1 := bitLen32 u hu
  have l2 := ctz32_le u hu
  have l3 := bitLen32 _ hn
  have l4 := ctz32_le _ hn
  by_cases h1 : Lib.bitLen u = 32
  · have e1 : (32 - (Lib.bitLen u : Int) == 0) = true := by rw [h1]; rfl
    by_cases h2 : Lib.ctz 32 u = 0
    · have e2 : (32 - (Lib.ctz 32 u : Int) == 32) = true := by rw [h2]; rfl
      have hb : both32 u = true := by unfold both32; rw [h1, h2]; rfl
      have h := dec32_swap u _ _ _ _ _ _ _ _ (Lib.hid hu) (not_max32 u hu) (Lib.hid hn) (Lib.hid rfl) (Lib.hid rfl) (Lib.hid rfl) (Lib.hid rfl) l1 l2 l3 l4 (and_up32 u hu) (and_up32 _ hn) hz e1 e2 w hT
      rw [hr, end32_at _ l3] at h
      rw [show ((decA u : Nat) : Int) = 32 - (Lib.ctz 32 (4294967295 - u) : Int) by unfold decA; rw [if_pos hb]; omega, show decB u = (63 - Lib.bitLen (4294967295 - u)) % 32 by unfold decB; rw [if_pos hb]]
      exact h
    · have e2 : (32 - (Lib.ctz 32 u : Int) == 32) = false := by simp only [beq_eq_false_iff_ne, ne_eq]; omega
      have hb : ¬ both32 u = true := by unfold both32; simp [h2]
      have h := dec32_keep2 u _ _ _ _ _ _ _ _ (Lib.hid hu) (not_max32 u hu) (Lib.hid hn) (Lib.hid rfl) (Lib.hid rfl) (Lib.hid rfl) (Lib.hid rfl) l1 l2 l3 l4 (and_up32 u hu) (and_up32 _ hn) hz e1 e2 w hT
      rw [hr, end32_at _ l2] at h
      rw [show ((decA u : Nat) : Int) = 32 - (Lib.bitLen u : Int) by unfold decA; rw [if_neg hb]; omega, show decB u = (63 - Lib.ctz 32 u) % 32 by unfold decB; rw [if_neg hb]]
      exact h
  · have e1 : (32 - (Lib.bitLen u : Int) == 0) = false := by simp only [beq_eq_false_iff_ne, ne_eq]; omega
    have hb : ¬ both32 u = true := by unfold both32; simp [h1]
    have h := dec32_keep1 u _ _ _ _ _ _ _ _ (Lib.hid hu) (not_max32 u hu) (Lib.hid hn) (Lib.hid rfl) (Lib.hid rfl) (Lib.hid rfl) (Lib.hid rfl) l1 l2 l3 l4 (and_up32 u hu) (and_up32 _ hn) hz e1 w hT
    rw [hr, end32_at _ l2] at h
    rw [show ((decA u : Nat) : Int) = 32 - (Lib.bitLen u : Int) by unfold decA; rw [if_neg hb]; omega, show decB u = (63 - Lib.ctz 32 u) % 32 by unfold decB; rw [if_neg hb]]
    exact h

theorem zdec32_any (v a b : Int) (r : Bool) (w : World) (H : Hid (Calls Tryd.prog 19 #[.int .u32 v] w fun e w' => e = .returned (.tuple #[.int .u32 a, .int .u32 b, .bool r]) ∧ w = w')) :
    Calls Tryd.prog 16 #[.int .u32 v] w fun e w' => e = .returned (.tuple #[.int .u32 a, .int .u32 b, .bool r]) ∧ w = w' := by
  go_enter Tryd.func16, Tryd.ntmps16
  go_wp2_with (go_at_call 19; (with_reducible refine H.out.mono ?_); rintro e w' ⟨rfl, rfl⟩)
  go_ret3
  exact ⟨rfl, rfl⟩
/-- The thin function, with what it tells under names. -/
theorem idec32_any (z : Int) (u a b : Nat) (r : Bool) (hz : z = u) (hu : Hid (u < 4294967296)) (ha : Hid (decA u = a)) (hb : Hid (decB u = b)) (hr : Hid (Pl.rotB 32 u = r)) (w : World) (hT : Hid (Tab32 w)) :
    Calls Tryd.prog 10 #[.int .u32 z] w fun e w' => e = .returned (.tuple #[.int .u32 a, .int .u32 b, .bool r]) ∧ w = w' := by
  subst hz
  have h := dec32_any u hu.out w hT
  rw [ha.out, hb.out, hr.out] at h
  have H := Lib.hid (zdec32_any u a b r w (Lib.hid h))
  clear h
  go_enter Tryd.func10, Tryd.ntmps10
  go_wp2_with (go_at_call 16; (with_reducible refine H.out.mono ?_); rintro e w' ⟨rfl, rfl⟩)
  go_ret3
  exact ⟨rfl, rfl⟩

theorem mod32_id (p : Nat) (h : p < 4294967296) : (p : Int) % 4294967296 = (p : Int) := by omega
theorem mask_or_form32 (x i : Nat) (hx : x < 4294967296) (hi : i < 32) : bits .or .u32 (x : Int) ((2 : Int) ^ (31 - i) % 4294967296) = ((x ||| 2 ^ (31 - i) : Nat) : Int) := by
  have hp : 2 ^ (31 - i) < 4294967296 := Nat.pow_lt_pow_right (a := 2) (m := 31 - i) (n := 32) (by omega) (by omega)
  have e : (2 : Int) ^ (31 - i) % 4294967296 = ((2 ^ (31 - i) : Nat) : Int) := by rw [two_pow_cast, mod32_id _ hp]
  rw [e, u32_or_nat _ _ hx hp]

theorem mask32_any (f l : Nat) (hf : f < 32) (hl : l < 32) (w : World) :
    Calls Tryd.prog 12 #[.int .i64 f, .int .i64 l] w fun e w' => e = .returned (.int .u32 (Pl.mask 32 f l)) ∧ w = w' := by
  go_enter Tryd.func12, Tryd.ntmps12
  go_wp2
  go_loop [5, 6] (fun x i => ∃ a j d : Nat, a < 4294967296 ∧ j < 32 ∧ d = (l + 32 - j) % 32 ∧ x = .int .u32 a ∧ i = .int .i64 j ∧ Pl.maskGo 32 d j a = Pl.mask 32 f l) (fun _ i => (l + 32 - (intOf i).toNat) % 32)
  case atStart => exact ⟨0, f, _, by omega, hf, rfl, rfl, rfl, rfl⟩
  case round =>
    obtain ⟨a, j, d, ha, hj, hd, rfl, rfl, hg⟩ := hrel
    have HG := Lib.hid hg; clear hg
    have HD := Lib.hid hd; clear hd
    have ho := mask_or_form32 a j ha hj
    have hlt : a ||| 2 ^ (31 - j) < 4294967296 := Nat.or_lt_two_pow (n := 32) ha (Nat.pow_lt_pow_right (by omega) (by omega))
    by_cases e : j = l
    · subst e
      go_wp2
      go_ret
      have h1 := HG.out
      rw [HD.out, Nat.add_sub_cancel_left] at h1
      exact ⟨ret_int (congrArg Nat.cast h1), rfl⟩
    · have e1 : ((j : Int) == (l : Int)) = false := by simp; omega
      have hs : d = (l + 32 - (j + 1) % 32) % 32 + 1 := by rw [HD.out]; omega
      have h1 := HG.out
      rw [hs] at h1
      have H1 := Lib.hid h1
      clear h1 hs
      go_wp2
      go_round
      case rel => exact ⟨_, (j + 1) % 32, _, hlt, by omega, rfl, rfl, by go_num, H1.out⟩
      case measure => simp [intOf]; omega

def NoMask (u k : Nat) : Prop := ∀ f l, f < k → l < 32 → Pl.mask 32 f l ≠ u
def NoMaskAt (u k j : Nat) : Prop := ∀ l, l < j → Pl.mask 32 k l ≠ u
theorem ring32_yes (u k j : Nat) (hk : k < 32) (hj : j < 32) (h : ((Pl.mask 32 k j : Nat) : Int) == (u : Int)) : true = Pl.rotB 32 u := by
  rw [nat_beq, beq_iff_eq] at h
  subst h
  exact ((Pl.rot32_iff _ (Pl.mask32_lt hk hj)).2 ⟨k, j, hk, hj, rfl⟩).symm
theorem ring32_next (u k j : Nat) (hn : NoMaskAt u k j) (h : (((Pl.mask 32 k j : Nat) : Int) == (u : Int)) = false) : NoMaskAt u k (j + 1) := by
  rw [nat_beq] at h
  have h2 : Pl.mask 32 k j ≠ u := by simpa using h
  intro l hl
  by_cases e : l = j
  · subst e; exact h2
  · exact hn l (by omega)
theorem ring32_out (u k j : Nat) (hj : 32 ≤ j) (hn : NoMask u k) (hnj : NoMaskAt u k j) : NoMask u (k + 1) := by
  intro f l hf hl
  by_cases e : f = k
  · subst e; exact hnj l (by omega)
  · exact hn f l (by omega) hl
theorem ring32_no (u k : Nat) (hu : u < 4294967296) (hk : 32 ≤ k) (hn : NoMask u k) : false = Pl.rotB 32 u := by
  cases h : Pl.rotB 32 u with
  | false => rfl
  | true =>
    obtain ⟨f, l, hf, hl, e⟩ := (Pl.rot32_iff u hu).1 h
    exact absurd e.symm (hn f l (by omega) hl)

theorem ring32_any (z : Int) (u : Nat) (hz : z = u) (hu : u < 4294967296) (w : World) :
    Calls Tryd.prog 11 #[.int .u32 z] w fun e w' => e = .returned (.bool (Pl.rotB 32 u)) ∧ w = w' := by
  subst hz
  go_enter Tryd.func11, Tryd.ntmps11
  go_wp2
  go_loop [3] (fun n => ∃ k : Nat, k ≤ 32 ∧ n = .int .i64 k ∧ NoMask u k) (fun n => 32 - (intOf n).toNat)
  case atStart => exact ⟨0, by omega, rfl, fun n b h1 h2 => by omega⟩
  case round =>
    obtain ⟨k, hk, rfl, hno⟩ := hrel
    by_cases hlt : k < 32
    · go_wp2
      go_loop [4] (fun b => ∃ j : Nat, j ≤ 32 ∧ b = .int .i64 j ∧ NoMaskAt u k j) (fun b => 32 - (intOf b).toNat)
      case atStart => exact ⟨0, by omega, rfl, fun b h => by omega⟩
      case round =>
        obtain ⟨j, hj, rfl, hnoj⟩ := hrel
        by_cases hjt : j < 32
        · go_wp2_with (go_at_call 12; refine (mask32_any k j hlt hjt _).mono ?_; rintro e w' ⟨rfl, rfl⟩)
          · go_ret
            exact ⟨ret_bool (ring32_yes u k j hlt hjt ‹_›), rfl⟩
          · have h := ring32_next u k j hnoj ‹_›
            go_round
            case rel => exact ⟨j + 1, by omega, by go_num, h⟩
            case measure => simp [intOf]; omega
        · go_wp2
          go_round
          case rel => exact ⟨k + 1, by omega, by go_num, ring32_out u k j (by omega) hno hnoj⟩
          case measure => simp [intOf]; omega
    · go_wp2
      go_ret
      exact ⟨ret_bool (ring32_no u k hu (by omega) hno), rfl⟩
end Go.Proofs.YticennjldlbpfaaDoor
