/- Plain facts on the masks of Arm's logical instructions: what the code tests is just what the masks are. No program in sight. -/
import Derived.Test.YtnohdfdjhhmmdaaRuns
namespace Go.Proofs.Ytnohdfdjhhmmdaa.Pl

/-- A number of 64 bits, turned to the right by k places. -/
def rot (k x : Nat) : Nat := (x >>> k) ||| ((x <<< (64 - k)) % 2 ^ 64)
/-- The k lowest bits of a number, with a sign, as 64 bits. -/
def sext (k x : Nat) : Nat := if x % 2 ^ k < 2 ^ (k - 1) then x % 2 ^ k else x % 2 ^ k + (2 ^ 64 - 2 ^ k)
def ringB (x : Nat) : Bool := onesB 64 x || onesB 64 (2 ^ 64 - 1 - x)
/-- What 'isbitcon' tests. -/
def isB (x : Nat) : Bool :=
  if x = 2 ^ 64 - 1 ∨ x = 0 then false
  else if x ≠ rot 32 x then ringB x
  else if x ≠ rot 16 x then ringB (sext 32 x)
  else if x ≠ rot 8 x then ringB (sext 16 x)
  else if x ≠ rot 4 x then ringB (sext 8 x)
  else true

def turn1 (p x : Nat) : Nat := (x >>> 1) ||| ((x &&& 1) <<< (p - 1))
def turned (p : Nat) : Nat → Nat → Nat
  | 0, x => x
  | k + 1, x => turned p k (turn1 p x)
def repF : Nat → Nat → Nat → Nat
  | 0, _, x => x
  | f + 1, p, x => if p < 64 then repF f (p * 2) (x ||| ((x <<< p) % 2 ^ 64)) else x
/-- The mask of n ones, turned to the right by b places within the period p, and repeated. -/
def made (p n b : Nat) : Nat := repF 6 p (turned p b (2 ^ n - 1))
def periods : List Nat := [2, 4, 8, 16, 32, 64]
def IsMade (p n b : Nat) : Prop := p ∈ periods ∧ 1 ≤ n ∧ n < p ∧ b < p
def rotN : Nat → Nat → Nat
  | 0, x => x
  | k + 1, x => rotN k (rot 1 x)
/-- What 'IsBitcon' of the reference looks for. -/
def specB (x : Nat) : Bool := periods.any fun p => (List.range p).any fun n => decide (1 ≤ n) && (List.range p).any fun b => rotN b (made p n 0) == x

/-- Whether a test holds of everything that a mask is made of. -/
def allMade (f : Nat → Nat → Nat → Bool) : Bool := periods.all fun p => (List.range p).all fun n => decide (n = 0) || (List.range p).all fun b => f p n b

theorem allMade_at {f : Nat → Nat → Nat → Bool} (h : allMade f = true) {p n b : Nat} (hm : IsMade p n b) : f p n b = true := by
  unfold allMade at h
  obtain ⟨hp, h1, h2, h3⟩ := hm
  have h4 := List.all_eq_true.1 h p hp
  have h5 := List.all_eq_true.1 h4 n (List.mem_range.2 h2)
  simp only [Bool.or_eq_true, decide_eq_true_eq] at h5
  rcases h5 with h5 | h5
  · omega
  · exact List.all_eq_true.1 h5 b (List.mem_range.2 h3)

theorem chk_rotN : allMade (fun p n b => rotN b (made p n 0) == made p n b) = true := by decide +kernel
theorem chk_isB : allMade (fun p n b => isB (made p n b)) = true := by decide +kernel
theorem chk_lt : allMade (fun p n b => decide (made p n b < 2 ^ 64)) = true := by decide +kernel

theorem specB_iff (x : Nat) : specB x = true ↔ ∃ p n b, IsMade p n b ∧ x = made p n b := by
  unfold specB
  simp only [List.any_eq_true, Bool.and_eq_true, decide_eq_true_eq, beq_iff_eq, List.mem_range]
  constructor
  · rintro ⟨p, hp, n, hn, h1, b, hb, e⟩
    have hm : IsMade p n b := ⟨hp, h1, hn, hb⟩
    exact ⟨p, n, b, hm, by rw [← e]; exact of_decide_eq_true (by simpa using allMade_at chk_rotN hm)⟩
  · rintro ⟨p, n, b, hm, rfl⟩
    have := allMade_at chk_rotN hm
    obtain ⟨hp, h1, hn, hb⟩ := hm
    exact ⟨p, hp, n, hn, h1, b, hb, by simpa using this⟩

theorem rot_eq (k x : Nat) (hk : k < 64) (hx : x < 2 ^ 64) : rot k x = (x % 2 ^ k) * 2 ^ (64 - k) + x / 2 ^ k := by
  have e : 2 ^ 64 = 2 ^ k * 2 ^ (64 - k) := by rw [← Nat.pow_add]; congr 1; omega
  have h1 : (x <<< (64 - k)) % 2 ^ 64 = (x % 2 ^ k) <<< (64 - k) := by
    rw [Nat.shiftLeft_eq, Nat.shiftLeft_eq, e, Nat.mul_mod_mul_right]
  have h2 : x / 2 ^ k < 2 ^ (64 - k) := by
    apply Nat.div_lt_of_lt_mul
    rw [← e]; exact hx
  unfold rot
  rw [h1, Nat.or_comm, Nat.shiftRight_eq_div_pow, ← Nat.shiftLeft_add_eq_or_of_lt h2, Nat.shiftLeft_eq]

theorem core32 (x q u : Nat) (h : x = u * 4294967296 + q) (hd : 4294967296 * q + u = x) : x = u * 4294967297 := by
  have hq : 4294967295 * q = 4294967295 * (u * 1) := by omega
  have h1 := Nat.eq_of_mul_eq_mul_left (Nat.zero_lt_succ _) hq
  clear hq h
  subst h1
  omega
theorem per32 (x : Nat) (hx : x < 2 ^ 64) (h : x = rot 32 x) : x = x % 2 ^ 32 * 4294967297 := by
  have h1 := h.trans (rot_eq 32 x (by omega) hx)
  simp only [Nat.reducePow, Nat.reduceSub] at h1 ⊢
  exact core32 x (x / 4294967296) (x % 4294967296) h1 (Nat.div_add_mod x 4294967296)
theorem core16 (x q u : Nat) (h : x = u * 281474976710656 + q) (hd : 65536 * q + u = x) : x = u * 281479271743489 := by
  have hq : 65535 * q = 65535 * (u * 4295032833) := by omega
  have h1 := Nat.eq_of_mul_eq_mul_left (Nat.zero_lt_succ _) hq
  clear hq h
  subst h1
  omega
theorem per16 (x : Nat) (hx : x < 2 ^ 64) (h : x = rot 16 x) : x = x % 2 ^ 16 * 281479271743489 := by
  have h1 := h.trans (rot_eq 16 x (by omega) hx)
  simp only [Nat.reducePow, Nat.reduceSub] at h1 ⊢
  exact core16 x (x / 65536) (x % 65536) h1 (Nat.div_add_mod x 65536)
theorem core8 (x q u : Nat) (h : x = u * 72057594037927936 + q) (hd : 256 * q + u = x) : x = u * 72340172838076673 := by
  have hq : 255 * q = 255 * (u * 282578800148737) := by omega
  have h1 := Nat.eq_of_mul_eq_mul_left (Nat.zero_lt_succ _) hq
  clear hq h
  subst h1
  omega
theorem per8 (x : Nat) (hx : x < 2 ^ 64) (h : x = rot 8 x) : x = x % 2 ^ 8 * 72340172838076673 := by
  have h1 := h.trans (rot_eq 8 x (by omega) hx)
  simp only [Nat.reducePow, Nat.reduceSub] at h1 ⊢
  exact core8 x (x / 256) (x % 256) h1 (Nat.div_add_mod x 256)
theorem core4 (x q u : Nat) (h : x = u * 1152921504606846976 + q) (hd : 16 * q + u = x) : x = u * 1229782938247303441 := by
  have hq : 15 * q = 15 * (u * 76861433640456465) := by omega
  have h1 := Nat.eq_of_mul_eq_mul_left (Nat.zero_lt_succ _) hq
  clear hq h
  subst h1
  omega
theorem per4 (x : Nat) (hx : x < 2 ^ 64) (h : x = rot 4 x) : x = x % 2 ^ 4 * 1229782938247303441 := by
  have h1 := h.trans (rot_eq 4 x (by omega) hx)
  simp only [Nat.reducePow, Nat.reduceSub] at h1 ⊢
  exact core4 x (x / 16) (x % 16) h1 (Nat.div_add_mod x 16)
theorem per_ne (k c x : Nat) (hc : (2 ^ k - 1) * c = 2 ^ 64 - 1) (h : x = x % 2 ^ k * c) (h0 : ¬ (x = 2 ^ 64 - 1 ∨ x = 0)) : x % 2 ^ k ≠ 0 ∧ x % 2 ^ k ≠ 2 ^ k - 1 :=
  ⟨fun e => h0 (.inr (h.trans (by rw [e, Nat.zero_mul]))), fun e => h0 (.inl (h.trans (by rw [e, hc])))⟩

/-- Whether k lowest bits u, repeated by a factor c, are one of some masks of the period k. -/
def found (k c u : Nat) (l : List (Nat × Nat)) : Bool := l.any fun q => decide (1 ≤ q.1) && decide (q.1 < k) && decide (q.2 < k) && made k q.1 q.2 == u * c

theorem found_made {k c u : Nat} {l : List (Nat × Nat)} (hk : k ∈ periods) (h : found k c u l = true) : ∃ p n b, IsMade p n b ∧ u * c = made p n b := by
  unfold found at h
  simp only [List.any_eq_true, Bool.and_eq_true, decide_eq_true_eq, beq_iff_eq] at h
  obtain ⟨q, _, ⟨⟨h1, h2⟩, h3⟩, h4⟩ := h
  exact ⟨k, q.1, q.2, ⟨hk, h1, h2, h3⟩, h4.symm⟩

/-- The sequences of ones, and what they are as a period: the finite part. -/
def chkPer (k c : Nat) : Bool := (List.range 65).all fun n => (List.range 65).all fun b => decide (n = 0) || decide (64 < n + b) ||
  ((let s := (2 ^ n - 1) * 2 ^ b
    let u := s % 2 ^ k
    decide (u = 0) || decide (u = 2 ^ k - 1) || decide (sext k u ≠ s) || found k c u [(n, (k - b) % k), (k - b, (k - b) % k)]) &&
   (let s := 2 ^ 64 - 1 - (2 ^ n - 1) * 2 ^ b
    let u := s % 2 ^ k
    decide (u = 0) || decide (u = 2 ^ k - 1) || decide (sext k u ≠ s) || found k c u [(k - n, (k - (n + b)) % k), (b, 0)]))

theorem chk64 : chkPer 64 1 = true := by decide +kernel
theorem chk32 : chkPer 32 4294967297 = true := by decide +kernel
theorem chk16 : chkPer 16 281479271743489 = true := by decide +kernel
theorem chk8 : chkPer 8 72340172838076673 = true := by decide +kernel
def chk4B (u : Nat) : Bool := decide (u = 0) || decide (u = 15) || (periods.any fun p => (List.range p).any fun n => (List.range p).any fun b => decide (1 ≤ n) && (made p n b == u * 1229782938247303441))
theorem chk4 : (List.range 16).all chk4B = true := by decide +kernel
theorem chk4_at (u : Nat) (hu : u < 16) (h0 : u ≠ 0) (h1 : u ≠ 15) : ∃ p n b, IsMade p n b ∧ u * 1229782938247303441 = made p n b := by
  have := List.all_eq_true.1 chk4 u (List.mem_range.2 hu)
  unfold chk4B at this
  simp only [Bool.or_eq_true, decide_eq_true_eq, List.any_eq_true, Bool.and_eq_true, beq_iff_eq, List.mem_range] at this
  rcases this with (g | g) | ⟨p, hp, n, hn, b, hb, hn1, e⟩
  · exact absurd g h0
  · exact absurd g h1
  · exact ⟨p, n, b, ⟨hp, hn1, hn, hb⟩, e.symm⟩

theorem sext_mod (k x : Nat) (hk : k ≤ 64) : sext k (x % 2 ^ k) = sext k x ∧ sext k x % 2 ^ k = x % 2 ^ k := by
  have e : 2 ^ 64 = 2 ^ k * 2 ^ (64 - k) := by rw [← Nat.pow_add]; congr 1; omega
  have hp : 0 < 2 ^ k := Nat.pow_pos (by omega)
  have hm : x % 2 ^ k < 2 ^ k := Nat.mod_lt _ hp
  refine ⟨by unfold sext; rw [Nat.mod_mod], ?_⟩
  unfold sext
  split
  · rw [Nat.mod_mod]
  · have : 2 ^ 64 - 2 ^ k = 2 ^ k * (2 ^ (64 - k) - 1) := by rw [e, Nat.mul_sub, Nat.mul_one]
    rw [this, Nat.add_mul_mod_self_left, Nat.mod_mod]

theorem sext_lt (k x : Nat) (hk : k ≤ 64) : sext k x < 2 ^ 64 := by
  have hp : 0 < 2 ^ k := Nat.pow_pos (by omega)
  have hm : x % 2 ^ k < 2 ^ k := Nat.mod_lt _ hp
  have hl : 2 ^ k ≤ 2 ^ 64 := Nat.pow_le_pow_right (by omega) hk
  unfold sext
  split <;> omega

theorem ring_found (k c x : Nat) (hk : k ≤ 64) (hkp : k ∈ periods) (hc : chkPer k c = true) (h0 : x % 2 ^ k ≠ 0) (h1 : x % 2 ^ k ≠ 2 ^ k - 1) (h : ringB (sext k x) = true) :
    ∃ p n b, IsMade p n b ∧ x % 2 ^ k * c = made p n b := by
  obtain ⟨e1, e2⟩ := sext_mod k x hk
  have hlt := sext_lt k x hk
  have hp : 0 < 2 ^ k := Nat.pow_pos (by omega)
  have hm1 : (2 ^ 64 - 1) % 2 ^ k = 2 ^ k - 1 := by
    have e : 2 ^ 64 = 2 ^ k * 2 ^ (64 - k) := by rw [← Nat.pow_add]; congr 1; omega
    have hq : 0 < 2 ^ (64 - k) := Nat.pow_pos (by omega)
    have : 2 ^ 64 - 1 = (2 ^ k - 1) + 2 ^ k * (2 ^ (64 - k) - 1) := by
      have : 2 ^ k * (2 ^ (64 - k) - 1) = 2 ^ 64 - 2 ^ k := by rw [e, Nat.mul_sub, Nat.mul_one]
      have hl : 2 ^ k ≤ 2 ^ 64 := Nat.pow_le_pow_right (by omega) hk
      omega
    rw [this, Nat.add_mul_mod_self_left, Nat.mod_eq_of_lt (by omega)]
  generalize hs : sext k x = s at *
  have hs0 : s ≠ 0 := by
    intro e; rw [e] at e2; simp at e2; omega
  have hs1 : s ≠ 2 ^ 64 - 1 := by
    intro e; rw [e, hm1] at e2; omega
  unfold chkPer at hc
  have use : ∀ n b, 1 ≤ n → n + b ≤ 64 → _ := fun n b h1 h2 => List.all_eq_true.1 (List.all_eq_true.1 hc n (List.mem_range.2 (by omega))) b (List.mem_range.2 (by omega))
  unfold ringB at h
  rw [Bool.or_eq_true] at h
  rcases h with h | h
  · obtain ⟨n, b, g1, g2, g3⟩ := (onesB_iff 64 s (by omega) hlt).1 h
    have := use n b g1 g2
    rw [← g3] at this
    simp only [Bool.or_eq_true, Bool.and_eq_true, decide_eq_true_eq, e2, e1] at this
    rcases this with (this | this) | this
    · omega
    · omega
    · rcases this.1 with ((g | g) | g) | g
      · exact absurd g h0
      · exact absurd g h1
      · simp at g
      · exact found_made hkp g
  · obtain ⟨n, b, g1, g2, g3⟩ := (onesB_iff 64 _ (by omega) (by omega)).1 h
    have := use n b g1 g2
    have g4 : 2 ^ 64 - 1 - (2 ^ n - 1) * 2 ^ b = s := by omega
    rw [g4] at this
    simp only [Bool.or_eq_true, Bool.and_eq_true, decide_eq_true_eq, e2, e1] at this
    rcases this with (this | this) | this
    · omega
    · omega
    · rcases this.2 with ((g | g) | g) | g
      · exact absurd g h0
      · exact absurd g h1
      · simp at g
      · exact found_made hkp g

theorem branch (k c x : Nat) (hk : k ≤ 64) (hkp : k ∈ periods) (hc : chkPer k c = true) (hp : x = x % 2 ^ k * c) (hc1 : (2 ^ k - 1) * c = 2 ^ 64 - 1) (h0 : ¬ (x = 2 ^ 64 - 1 ∨ x = 0)) (h : ringB (sext k x) = true) :
    ∃ p n b, IsMade p n b ∧ x = made p n b := by
  obtain ⟨n0, n1⟩ := per_ne k c x hc1 hp h0
  obtain ⟨p, n, b, hm, e⟩ := ring_found k c x hk hkp hc n0 n1 h
  exact ⟨p, n, b, hm, hp.trans e⟩

theorem sext64 (x : Nat) (hx : x < 2 ^ 64) : sext 64 x = x := by
  have e : x % 2 ^ 64 = x := Nat.mod_eq_of_lt hx
  unfold sext
  rw [e, Nat.sub_self, Nat.add_zero, ite_self]

theorem made_of_isB (x : Nat) (hx : x < 2 ^ 64) (h : isB x = true) : ∃ p n b, IsMade p n b ∧ x = made p n b := by
  unfold isB at h
  by_cases c0 : x = 2 ^ 64 - 1 ∨ x = 0
  · rw [if_pos c0] at h; cases h
  rw [if_neg c0] at h
  by_cases c1 : x ≠ rot 32 x
  · rw [if_pos c1] at h
    have h2 : ringB (sext 64 x) = true := by rw [sext64 x hx]; exact h
    exact branch 64 1 x (by decide) (by decide) chk64 (by rw [Nat.mul_one, Nat.mod_eq_of_lt hx]) (by decide) c0 h2
  rw [if_neg c1] at h
  by_cases c2 : x ≠ rot 16 x
  · rw [if_pos c2] at h
    exact branch 32 _ x (by decide) (by decide) chk32 (per32 x hx (Decidable.not_not.1 c1)) (by decide) c0 h
  rw [if_neg c2] at h
  by_cases c3 : x ≠ rot 8 x
  · rw [if_pos c3] at h
    exact branch 16 _ x (by decide) (by decide) chk16 (per16 x hx (Decidable.not_not.1 c2)) (by decide) c0 h
  rw [if_neg c3] at h
  by_cases c4 : x ≠ rot 4 x
  · rw [if_pos c4] at h
    exact branch 8 _ x (by decide) (by decide) chk8 (per8 x hx (Decidable.not_not.1 c3)) (by decide) c0 h
  have p4 := per4 x hx (Decidable.not_not.1 c4)
  obtain ⟨n0, n1⟩ := per_ne 4 _ x (by decide) p4 c0
  obtain ⟨p, n, b, hm, e⟩ := chk4_at (x % 2 ^ 4) (Nat.mod_lt _ (by decide)) n0 n1
  exact ⟨p, n, b, hm, p4.trans e⟩

theorem isB_iff (x : Nat) (hx : x < 2 ^ 64) : isB x = true ↔ ∃ p n b, IsMade p n b ∧ x = made p n b :=
  ⟨made_of_isB x hx, by rintro ⟨p, n, b, hm, rfl⟩; exact allMade_at chk_isB hm⟩

theorem isB_spec (x : Nat) (hx : x < 2 ^ 64) : isB x = specB x := by
  rw [Bool.eq_iff_iff, isB_iff x hx, specB_iff]

end Go.Proofs.Ytnohdfdjhhmmdaa.Pl
