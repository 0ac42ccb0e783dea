/- Plain facts on masks that may go round: what the code tests is just what the masks from one bit to another one are. No program in sight. -/
import Derived.Test.YticennjldlbpfaaDoorRuns
namespace Go.Proofs.YticennjldlbpfaaDoor.Pl

/-- The test of a rotate mask, in W bits. -/
def rotB (W u : Nat) : Bool := ((u &&& up W u == 0) || ((2 ^ W - 1 - u) &&& up W (2 ^ W - 1 - u) == 0)) && u != 0
/-- What 'IsRing' of the reference tells. -/
def ringS (W u : Nat) : Bool := u != 0 && (runB W u || (u != 2 ^ W - 1 && runB W (2 ^ W - 1 - u)))

def maskGo (W : Nat) : Nat → Nat → Nat → Nat
  | 0, i, x => x ||| 2 ^ (W - 1 - i)
  | d + 1, i, x => maskGo W d ((i + 1) % W) (x ||| 2 ^ (W - 1 - i))
/-- The mask from bit f to bit l, counted from the highest one on. -/
def mask (W f l : Nat) : Nat := maskGo W ((l + W - f) % W) f 0

theorem and_up_iff (W u : Nat) (h0 : 0 < u) (hu : u < 2 ^ W) : (u &&& up W u == 0) = runB W u := by
  rw [Bool.eq_iff_iff, beq_iff_eq, run_iff_and W u h0 hu, runB_iff]

theorem rot_ring (W u : Nat) (hW : 0 < W) (hu : u < 2 ^ W) : rotB W u = ringS W u := by
  unfold rotB ringS
  rcases Nat.eq_zero_or_pos u with h | h
  · subst h; simp
  · have e0 : (u != 0) = true := by simp; omega
    rw [e0, Bool.and_true, Bool.true_and, and_up_iff W u h hu]
    by_cases h1 : u = 2 ^ W - 1
    · have hr : runB W u = true := (runB_iff W u).2 ⟨W, 0, hW, by omega, by rw [Nat.pow_zero, Nat.mul_one, h1]⟩
      rw [hr, Bool.true_or, Bool.true_or]
    · have e1 : (u != 2 ^ W - 1) = true := by simpa using h1
      rw [e1, Bool.true_and, and_up_iff W (2 ^ W - 1 - u) (by omega) (by omega)]

theorem rot_not (W u : Nat) (hu : u < 2 ^ W) (h0 : u ≠ 0) (h1 : u ≠ 2 ^ W - 1) : rotB W (2 ^ W - 1 - u) = rotB W u := by
  unfold rotB
  have e0 : (u != 0) = true := by simpa using h0
  have e1 : (2 ^ W - 1 - u != 0) = true := by simp; omega
  have e2 : 2 ^ W - 1 - (2 ^ W - 1 - u) = u := by omega
  rw [e0, e1, e2, Bool.and_true, Bool.and_true, Bool.or_comm]

def allPair (W : Nat) (f : Nat → Nat → Bool) : Bool := (List.range W).all fun a => (List.range W).all fun b => f a b
theorem allPair_at {W : Nat} {f : Nat → Nat → Bool} (h : allPair W f = true) {a b : Nat} (ha : a < W) (hb : b < W) : f a b = true :=
  List.all_eq_true.1 (List.all_eq_true.1 h a (List.mem_range.2 ha)) b (List.mem_range.2 hb)

/-- The sequences of ones, and what they are as masks: the finite part. -/
def chkRing (W : Nat) : Bool := allPair (W + 1) fun n b => decide (n = 0) || decide (W < n + b) ||
  (mask W (W - n - b) (W - 1 - b) == (2 ^ n - 1) * 2 ^ b && (decide (n = W) || mask W ((W - b) % W) ((2 * W - 1 - (n + b)) % W) == 2 ^ W - 1 - (2 ^ n - 1) * 2 ^ b))
theorem chkRing64 : chkRing 64 = true := by decide +kernel
theorem chkRing32 : chkRing 32 = true := by decide +kernel
theorem chkRot64 : allPair 64 (fun f l => rotB 64 (mask 64 f l) && decide (mask 64 f l < 2 ^ 64)) = true := by decide +kernel
theorem chkRot32 : allPair 32 (fun f l => rotB 32 (mask 32 f l) && decide (mask 32 f l < 2 ^ 32)) = true := by decide +kernel

theorem ring_mask (W u : Nat) (hW : 0 < W) (hu : u < 2 ^ W) (hc : chkRing W = true) (h : rotB W u = true) : ∃ f l, f < W ∧ l < W ∧ u = mask W f l := by
  rw [rot_ring W u hW hu] at h
  unfold ringS at h
  simp only [Bool.and_eq_true, Bool.or_eq_true, bne_iff_ne, ne_eq, runB_iff] at h
  obtain ⟨h0, h⟩ := h
  have use : ∀ n b, 1 ≤ n → n + b ≤ W → _ := fun n b h1 h2 => allPair_at (W := W + 1) hc (a := n) (b := b) (by omega) (by omega)
  rcases h with ⟨n, b, g1, g2, rfl⟩ | ⟨h1, n, b, g1, g2, g3⟩
  · have := use n b g1 g2
    simp only [Bool.or_eq_true, Bool.and_eq_true, decide_eq_true_eq, beq_iff_eq] at this
    rcases this with (e | e) | ⟨e, _⟩
    · omega
    · omega
    · exact ⟨_, _, by omega, by omega, e.symm⟩
  · have := use n b g1 g2
    simp only [Bool.or_eq_true, Bool.and_eq_true, decide_eq_true_eq, beq_iff_eq] at this
    rcases this with (e | e) | ⟨_, e | e⟩
    · omega
    · omega
    · exfalso
      subst e
      have hb : b = 0 := by omega
      subst hb
      rw [Nat.pow_zero, Nat.mul_one] at g3
      omega
    · refine ⟨(W - b) % W, (2 * W - 1 - (n + b)) % W, Nat.mod_lt _ hW, Nat.mod_lt _ hW, ?_⟩
      rw [e, ← g3]
      omega

theorem rot64_iff (u : Nat) (hu : u < 2 ^ 64) : rotB 64 u = true ↔ ∃ f l, f < 64 ∧ l < 64 ∧ u = mask 64 f l := by
  refine ⟨ring_mask 64 u (by decide) hu chkRing64, ?_⟩
  rintro ⟨f, l, hf, hl, rfl⟩
  have := allPair_at chkRot64 hf hl
  rw [Bool.and_eq_true] at this
  exact this.1
theorem rot32_iff (u : Nat) (hu : u < 2 ^ 32) : rotB 32 u = true ↔ ∃ f l, f < 32 ∧ l < 32 ∧ u = mask 32 f l := by
  refine ⟨ring_mask 32 u (by decide) hu chkRing32, ?_⟩
  rintro ⟨f, l, hf, hl, rfl⟩
  have := allPair_at chkRot32 hf hl
  rw [Bool.and_eq_true] at this
  exact this.1
theorem mask64_lt {f l : Nat} (hf : f < 64) (hl : l < 64) : mask 64 f l < 2 ^ 64 := by
  have := allPair_at chkRot64 hf hl
  rw [Bool.and_eq_true] at this
  exact of_decide_eq_true this.2
theorem mask32_lt {f l : Nat} (hf : f < 32) (hl : l < 32) : mask 32 f l < 2 ^ 32 := by
  have := allPair_at chkRot32 hf hl
  rw [Bool.and_eq_true] at this
  exact of_decide_eq_true this.2

end Go.Proofs.YticennjldlbpfaaDoor.Pl
