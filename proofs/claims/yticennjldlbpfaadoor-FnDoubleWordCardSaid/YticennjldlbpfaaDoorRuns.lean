/- Plain facts on sequences of ones: a number other than 0 of W bits is a sequence of ones just if adding its lowest bit to it gives a power of two, or nothing. No program in sight. -/
namespace Go.Proofs.YticennjldlbpfaaDoor.Pl

theorem exists_odd (x : Nat) (h : 0 < x) : ∃ t o, x = 2 ^ t * o ∧ o % 2 = 1 := by
  induction x using Nat.strongRecOn with
  | ind x ih =>
    by_cases hx : x % 2 = 1
    · exact ⟨0, x, by simp, hx⟩
    · obtain ⟨t, o, e, ho⟩ := ih (x / 2) (by omega) (by omega)
      refine ⟨t + 1, o, ?_, ho⟩
      rw [Nat.pow_succ, Nat.mul_comm (2 ^ t) 2, Nat.mul_assoc, ← e]
      omega

theorem mul_and (t a b : Nat) : (2 ^ t * a) &&& (2 ^ t * b) = 2 ^ t * (a &&& b) := by
  apply Nat.eq_of_testBit_eq
  intro i
  simp only [Nat.testBit_and, Nat.testBit_two_pow_mul]
  cases decide (i ≥ t) <;> simp

theorem odd_and_neg (n o : Nat) (ho : o % 2 = 1) (hlt : o < 2 ^ n) : o &&& (2 ^ n - o) = 1 := by
  obtain ⟨k, rfl⟩ : ∃ k, o = 2 * k + 1 := ⟨o / 2, by omega⟩
  have hn : 0 < n := by
    rcases Nat.eq_zero_or_pos n with h | h
    · subst h; simp at hlt
    · exact h
  apply Nat.eq_of_testBit_eq
  intro i
  rw [Nat.testBit_and, Nat.testBit_two_pow_sub_succ (by omega)]
  cases i with
  | zero => simp [Nat.testBit_zero, hn]
  | succ i =>
    have h1 : (2 * k + 1) / 2 = k := by omega
    have h2 : (2 * k) / 2 = k := by omega
    simp only [Nat.testBit_succ, h1, h2]
    cases k.testBit i <;> simp

theorem lowbit (W t o : Nat) (ho : o % 2 = 1) (h : 2 ^ t * o < 2 ^ W) : (2 ^ t * o) &&& (2 ^ W - 2 ^ t * o) = 2 ^ t ∧ t < W ∧ o < 2 ^ (W - t) := by
  have hp : 0 < 2 ^ t := Nat.pow_pos (by omega)
  have h1 : 2 ^ t ≤ 2 ^ t * o := Nat.le_mul_of_pos_right _ (by omega)
  have ht : t < W := (Nat.pow_lt_pow_iff_right (a := 2) (by omega)).1 (by omega)
  have e : 2 ^ W = 2 ^ t * 2 ^ (W - t) := by rw [← Nat.pow_add]; congr 1; omega
  have h2 : o < 2 ^ (W - t) := by
    rw [e] at h
    exact Nat.lt_of_mul_lt_mul_left h
  refine ⟨?_, ht, h2⟩
  rw [e, ← Nat.mul_sub, mul_and, odd_and_neg _ _ ho h2, Nat.mul_one]

/-- A sequence of n ones, b zeros behind it, in W bits. -/
def Run (W x : Nat) : Prop := ∃ n b, 1 ≤ n ∧ n + b ≤ W ∧ x = (2 ^ n - 1) * 2 ^ b

theorem pow_part (t a : Nat) : (2 ^ t * a).isPowerOfTwo ↔ a.isPowerOfTwo := by
  have hp : 0 < 2 ^ t := Nat.pow_pos (by omega)
  constructor
  · rintro ⟨k, hk⟩
    have h0 : 0 < a := by
      rcases Nat.eq_zero_or_pos a with h | h
      · subst h
        have : 0 < 2 ^ k := Nat.pow_pos (by omega)
        omega
      · exact h
    have h1 : 2 ^ t ≤ 2 ^ k := by rw [← hk]; exact Nat.le_mul_of_pos_right _ h0
    have ht : t ≤ k := (Nat.pow_le_pow_iff_right (a := 2) (by omega)).1 h1
    refine ⟨k - t, ?_⟩
    have e : 2 ^ k = 2 ^ t * 2 ^ (k - t) := by rw [← Nat.pow_add]; congr 1; omega
    rw [e] at hk
    exact Nat.eq_of_mul_eq_mul_left hp hk
  · rintro ⟨k, rfl⟩
    exact ⟨t + k, by rw [Nat.pow_add]⟩

/-- What is left where the lowest bit is added. -/
def up (W x : Nat) : Nat := ((x &&& (2 ^ W - x)) + x) % 2 ^ W

theorem up_odd (W t o : Nat) (ho : o % 2 = 1) (h : 2 ^ t * o < 2 ^ W) :
    (up W (2 ^ t * o) = 0 ∧ (o + 1).isPowerOfTwo) ∨ (up W (2 ^ t * o) = 2 ^ t * (o + 1) ∧ 0 < 2 ^ t * (o + 1)) := by
  obtain ⟨h1, ht, h2⟩ := lowbit W t o ho h
  have hp : 0 < 2 ^ t := Nat.pow_pos (by omega)
  have e : 2 ^ W = 2 ^ t * 2 ^ (W - t) := by rw [← Nat.pow_add]; congr 1; omega
  have e2 : 2 ^ t + 2 ^ t * o = 2 ^ t * (o + 1) := by rw [Nat.mul_add, Nat.mul_one, Nat.add_comm]
  unfold up
  rw [h1, e2]
  by_cases hc : o + 1 = 2 ^ (W - t)
  · left
    refine ⟨by rw [hc, ← e, Nat.mod_self], ⟨_, hc⟩⟩
  · right
    have hlt : 2 ^ t * (o + 1) < 2 ^ W := by
      rw [e]
      exact Nat.mul_lt_mul_of_pos_left (by omega) hp
    exact ⟨Nat.mod_eq_of_lt hlt, Nat.mul_pos hp (by omega)⟩

theorem zero_iff (W t o : Nat) (ho : o % 2 = 1) (h : 2 ^ t * o < 2 ^ W) : (up W (2 ^ t * o) = 0 ∨ (up W (2 ^ t * o)).isPowerOfTwo) ↔ (o + 1).isPowerOfTwo := by
  rcases up_odd W t o ho h with ⟨e, hp⟩ | ⟨e, hp⟩
  · rw [e]; exact ⟨fun _ => hp, fun _ => .inl rfl⟩
  · rw [e, pow_part]
    exact ⟨fun h => h.elim (fun h => by omega) id, .inr⟩

theorem and_iff (W t o : Nat) (ho : o % 2 = 1) (h : 2 ^ t * o < 2 ^ W) : (2 ^ t * o) &&& up W (2 ^ t * o) = 0 ↔ (o + 1).isPowerOfTwo := by
  rcases up_odd W t o ho h with ⟨e, hp⟩ | ⟨e, _⟩
  · rw [e]; simp [hp]
  · have hp : 0 < 2 ^ t := Nat.pow_pos (by omega)
    rw [e, mul_and, ← Nat.and_sub_one_eq_zero_iff_isPowerOfTwo (by omega), Nat.and_comm (o + 1)]
    simp only [Nat.add_sub_cancel]
    constructor
    · intro h
      rcases Nat.mul_eq_zero.1 h with h | h
      · omega
      · exact h
    · intro h
      rw [h, Nat.mul_zero]

theorem run_odd (W x : Nat) (h : Run W x) : ∃ t o, x = 2 ^ t * o ∧ o % 2 = 1 ∧ (o + 1).isPowerOfTwo ∧ 0 < x ∧ x < 2 ^ W := by
  obtain ⟨n, b, h1, h2, rfl⟩ := h
  have hn : 2 ^ n = 2 * 2 ^ (n - 1) := by rw [← Nat.pow_succ']; congr 1; omega
  have hp : 0 < 2 ^ (n - 1) := Nat.pow_pos (by omega)
  have hb : 0 < 2 ^ b := Nat.pow_pos (by omega)
  refine ⟨b, 2 ^ n - 1, Nat.mul_comm _ _, by omega, ⟨n, by omega⟩, Nat.mul_pos (by omega) hb, ?_⟩
  have e : 2 ^ n * 2 ^ b ≤ 2 ^ W := by rw [← Nat.pow_add]; exact Nat.pow_le_pow_right (by omega) h2
  have : (2 ^ n - 1) * 2 ^ b < 2 ^ n * 2 ^ b := Nat.mul_lt_mul_of_pos_right (by omega) hb
  omega

theorem run_of (W t o : Nat) (ho : o % 2 = 1) (h : 2 ^ t * o < 2 ^ W) (hp : (o + 1).isPowerOfTwo) : Run W (2 ^ t * o) := by
  obtain ⟨_, ht, h2⟩ := lowbit W t o ho h
  obtain ⟨k, hk⟩ := hp
  have hk1 : k ≤ W - t := (Nat.pow_le_pow_iff_right (a := 2) (by omega)).1 (by omega)
  refine ⟨k, t, ?_, by omega, ?_⟩
  · rcases Nat.eq_zero_or_pos k with h | h
    · subst h; simp at hk; omega
    · exact h
  · rw [← hk, Nat.add_sub_cancel, Nat.mul_comm]

theorem run_iff_zero (W x : Nat) (h0 : 0 < x) (hx : x < 2 ^ W) : (up W x = 0 ∨ (up W x).isPowerOfTwo) ↔ Run W x := by
  constructor
  · intro h
    obtain ⟨t, o, rfl, ho⟩ := exists_odd x h0
    exact run_of W t o ho hx ((zero_iff W t o ho hx).1 h)
  · intro h
    obtain ⟨t, o, rfl, ho, hp, _, _⟩ := run_odd W x h
    exact (zero_iff W t o ho hx).2 hp

theorem run_iff_and (W x : Nat) (h0 : 0 < x) (hx : x < 2 ^ W) : x &&& up W x = 0 ↔ Run W x := by
  constructor
  · intro h
    obtain ⟨t, o, rfl, ho⟩ := exists_odd x h0
    exact run_of W t o ho hx ((and_iff W t o ho hx).1 h)
  · intro h
    obtain ⟨t, o, rfl, ho, hp, _, _⟩ := run_odd W x h
    exact (and_iff W t o ho hx).2 hp

theorem up_lt (W x : Nat) : up W x < 2 ^ W := Nat.mod_lt _ (Nat.pow_pos (by omega))

/-- The test of 'sequenceOfOnes', in W bits. -/
def onesB (W x : Nat) : Bool := ((up W x + (2 ^ W - 1)) % 2 ^ W) &&& up W x == 0

theorem onesB_iff (W x : Nat) (h0 : 0 < x) (hx : x < 2 ^ W) : onesB W x = true ↔ Run W x := by
  rw [← run_iff_zero W x h0 hx]
  have hlt := up_lt W x
  unfold onesB
  generalize up W x = y at *
  rcases Nat.eq_zero_or_pos y with h | h
  · subst h; simp
  · have e : (y + (2 ^ W - 1)) % 2 ^ W = y - 1 := by
      have : y + (2 ^ W - 1) = (y - 1) + 2 ^ W := by omega
      rw [this, Nat.add_mod_right, Nat.mod_eq_of_lt (by omega)]
    rw [e, Nat.and_comm, beq_iff_eq, Nat.and_sub_one_eq_zero_iff_isPowerOfTwo (by omega)]
    exact ⟨.inr, fun h => h.elim (fun h => by omega) id⟩

/-- All sequences of ones of W bits, by trying each. -/
def runB (W x : Nat) : Bool := (List.range (W + 1)).any fun n => (List.range (W + 1)).any fun b => decide (1 ≤ n) && decide (n + b ≤ W) && x == (2 ^ n - 1) * 2 ^ b

theorem runB_iff (W x : Nat) : runB W x = true ↔ Run W x := by
  unfold runB Run
  simp only [List.any_eq_true, List.mem_range, Bool.and_eq_true, decide_eq_true_eq, beq_iff_eq]
  constructor
  · rintro ⟨n, _, b, _, ⟨h1, h2⟩, h3⟩
    exact ⟨n, b, h1, h2, h3⟩
  · rintro ⟨n, b, h1, h2, h3⟩
    exact ⟨n, by omega, b, by omega, ⟨h1, h2⟩, h3⟩

end Go.Proofs.YticennjldlbpfaaDoor.Pl
