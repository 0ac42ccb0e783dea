/- Plain: the pieces of a function's instructions, and what the writer of tables keeps. No program in sight. -/
import Derived.Test.YtmadidaiaggheaaPl
namespace Go.Proofs.Ytmadidaiaggheaa
open Go.RowKit

/-- One more instruction's places, behind the pieces so far. -/
def addP (out : List (Int × Int)) (v long : Int) : List (Int × Int) :=
  if long = 0 then out else
    match out.reverse with
    | [] => [(v, long)]
    | q :: r => if q.1 = v then r.reverse ++ [(v, q.2 + long)] else out ++ [(v, long)]
theorem addP_zero (out : List (Int × Int)) (v : Int) : addP out v 0 = out := by simp [addP]
theorem addP_nil {v long : Int} (h : long ≠ 0) : addP [] v long = [(v, long)] := by simp [addP, h]
theorem addP_same {ps : List (Int × Int)} {v l long : Int} (h : long ≠ 0) : addP (ps ++ [(v, l)]) v long = ps ++ [(v, l + long)] := by simp [addP, h]
theorem addP_new {ps : List (Int × Int)} {x v l long : Int} (h : long ≠ 0) (hx : x ≠ v) : addP (ps ++ [(x, l)]) v long = ps ++ [(x, l)] ++ [(v, long)] := by simp [addP, h, hx]

/-- The place of instruction i; behind the last one the size. -/
def pAt (pcs : List Int) (size : Int) (i : Nat) : Int := (pcs[i]?).getD size
def vAt (before : List Int) (i : Nat) : Int := (before[i]?).getD 0
/-- The pieces of the first k instructions. -/
def piecesK (pcs : List Int) (size : Int) (before : List Int) (m : Int) : Nat → List (Int × Int)
  | 0 => []
  | k + 1 => addP (piecesK pcs size before m k) (vAt before k) ((pAt pcs size (k + 1) - pAt pcs size k) / m)
def piecesOf (pcs : List Int) (size : Int) (before : List Int) (m : Int) : List (Int × Int) := piecesK pcs size before m pcs.length

/-- What 'IsCode' of the reference tells. -/
structure Code (pcs : List Int) (size : Int) (before : List Int) (m : Int) : Prop where
  n1 : 1 ≤ pcs.length
  nb : before.length = pcs.length
  m1 : 1 ≤ m
  m16 : m ≤ 16
  p0 : pAt pcs size 0 = 0
  mono : ∀ i, i < pcs.length → pAt pcs size i ≤ pAt pcs size (i + 1)
  last : pAt pcs size (pcs.length - 1) < size
  s31 : size < 2147483648
  dvd : ∀ i, i ≤ pcs.length → pAt pcs size i % m = 0
  v32 : ∀ z ∈ before, inI32 z

theorem pAt_end (pcs : List Int) (size : Int) : pAt pcs size pcs.length = size := by simp [pAt]
theorem vAt_in {before : List Int} (h : ∀ z ∈ before, inI32 z) (i : Nat) : inI32 (vAt before i) := by
  unfold vAt
  cases hz : before[i]? with
  | none => unfold inI32; simp
  | some z => exact h z (List.mem_of_getElem? hz)

section
variable {pcs : List Int} {size : Int} {before : List Int} {m : Int}
theorem Code.le (h : Code pcs size before m) {i j : Nat} (hij : i ≤ j) (hj : j ≤ pcs.length) : pAt pcs size i ≤ pAt pcs size j := by
  induction j with
  | zero => rw [Nat.le_zero.1 hij]; exact Int.le_refl _
  | succ j ih =>
    rcases Nat.lt_or_ge i (j + 1) with h1 | h1
    · exact Int.le_trans (ih (by omega) (by omega)) (h.mono j (by omega))
    · rw [show i = j + 1 by omega]; exact Int.le_refl _
theorem Code.nonneg (h : Code pcs size before m) {i : Nat} (hi : i ≤ pcs.length) : 0 ≤ pAt pcs size i := by rw [← h.p0]; exact h.le (Nat.zero_le _) hi
theorem Code.le_size (h : Code pcs size before m) {i : Nat} (hi : i ≤ pcs.length) : pAt pcs size i ≤ size := by have := h.le hi (Nat.le_refl _); rwa [pAt_end] at this
theorem Code.step_end (h : Code pcs size before m) : pAt pcs size (pcs.length - 1) < pAt pcs size (pcs.length - 1 + 1) := by
  rw [show pcs.length - 1 + 1 = pcs.length by have := h.n1; omega, pAt_end]; exact h.last
theorem ediv_back {a m : Int} (h : a % m = 0) : a / m * m = a := Int.ediv_mul_cancel (Int.dvd_of_emod_eq_zero h)
theorem sub_mod {a b m : Int} (ha : a % m = 0) (hb : b % m = 0) : (a - b) % m = 0 :=
  Int.emod_eq_zero_of_dvd (Int.dvd_sub (Int.dvd_of_emod_eq_zero ha) (Int.dvd_of_emod_eq_zero hb))
theorem Code.long (h : Code pcs size before m) {i : Nat} (hi : i < pcs.length) : (pAt pcs size (i + 1) - pAt pcs size i) / m * m = pAt pcs size (i + 1) - pAt pcs size i :=
  ediv_back (sub_mod (h.dvd _ hi) (h.dvd _ (by omega)))
theorem div_pos_of {a m : Int} (hm : 1 ≤ m) (h : a / m * m = a) (ha : 1 ≤ a) : 1 ≤ a / m := by
  rcases Int.lt_or_le (a / m) 1 with h1 | h1
  · exfalso
    have : a / m * m ≤ 0 := Int.mul_nonpos_of_nonpos_of_nonneg (by omega) (by omega)
    omega
  · exact h1
theorem div_nonneg_of {a m : Int} (hm : 1 ≤ m) (ha : 0 ≤ a) : 0 ≤ a / m := Int.ediv_nonneg ha (by omega)
end

/-- Pieces with lengths, each with another value than the one before it. -/
def Good : List (Int × Int) → Prop
  | [] => True
  | p :: r => 1 ≤ p.2 ∧ Alt p.1 r
theorem good_snoc (ps : List (Int × Int)) (p : Int × Int) : Good (ps ++ [p]) ↔ Good ps ∧ (ps = [] ∨ p.1 ≠ lastV (-1) ps) ∧ 1 ≤ p.2 := by
  cases ps with
  | nil => simp [Good, Alt]
  | cons q r =>
    show (1 ≤ q.2 ∧ Alt q.1 (r ++ [p])) ↔ (1 ≤ q.2 ∧ Alt q.1 r) ∧ (q :: r = [] ∨ p.1 ≠ lastV q.1 r) ∧ 1 ≤ p.2
    rw [Alt_snoc]
    simp [and_assoc]
theorem lastV_any {ps : List (Int × Int)} (h : ps ≠ []) (a b : Int) : lastV a ps = lastV b ps := by
  cases ps with
  | nil => exact absurd rfl h
  | cons q r => rfl
theorem Alt.pos {v : Int} {ps : List (Int × Int)} (h : Alt v ps) : ∀ p ∈ ps, 1 ≤ p.2 := by
  induction ps generalizing v with
  | nil => simp
  | cons q r ih =>
    intro p hp
    rcases List.mem_cons.1 hp with rfl | hp
    · exact h.2.1
    · exact ih h.2.2 p hp
theorem Good.pos {ps : List (Int × Int)} (h : Good ps) : ∀ p ∈ ps, 1 ≤ p.2 := by
  cases ps with
  | nil => simp
  | cons q r =>
    intro p hp
    rcases List.mem_cons.1 hp with rfl | hp
    · exact h.1
    · exact h.2.pos p hp
theorem sumL_ge {ps : List (Int × Int)} (h : ∀ p ∈ ps, 1 ≤ p.2) : 0 ≤ sumL ps ∧ ∀ p ∈ ps, p.2 ≤ sumL ps := by
  induction ps with
  | nil => simp [sumL]
  | cons q r ih =>
    obtain ⟨h1, h2⟩ := ih (fun p hp => h p (List.mem_cons.2 (.inr hp)))
    have hq := h q (List.mem_cons.2 (.inl rfl))
    refine ⟨by simp only [sumL]; omega, fun p hp => ?_⟩
    simp only [sumL]
    rcases List.mem_cons.1 hp with rfl | hp
    · omega
    · have := h2 p hp; omega
theorem snoc_cases (l : List (Int × Int)) : l = [] ∨ ∃ ps x y, l = ps ++ [(x, y)] := by
  rcases List.eq_nil_or_concat l with h | ⟨ps, q, h⟩
  · exact .inl h
  · exact .inr ⟨ps, q.1, q.2, by rw [h]; simp⟩

theorem addP_good {out : List (Int × Int)} {v long : Int} (h : Good out) (h0 : 0 ≤ long) :
    Good (addP out v long) ∧ sumL (addP out v long) = sumL out + long ∧ (addP out v long).length ≤ out.length + 1 ∧ (inI32 v → (∀ p ∈ out, inI32 p.1) → ∀ p ∈ addP out v long, inI32 p.1) := by
  by_cases hz : long = 0
  · subst hz
    rw [addP_zero]
    exact ⟨h, by omega, by omega, fun _ h => h⟩
  rcases snoc_cases out with rfl | ⟨ps, x, l, rfl⟩
  · rw [addP_nil hz]
    exact ⟨⟨by show 1 ≤ long; omega, trivial⟩, by simp [sumL], by simp, fun hv _ p hp => by simp at hp; subst hp; exact hv⟩
  · obtain ⟨g1, g2, g3⟩ := (good_snoc ps (x, l)).1 h
    simp only at g2 g3
    by_cases hx : x = v
    · subst hx
      rw [addP_same hz]
      refine ⟨(good_snoc ps (x, l + long)).2 ⟨g1, g2, by show 1 ≤ l + long; omega⟩, by rw [sumL_snoc, sumL_snoc]; simp only; omega, by simp, fun hv ho p hp => ?_⟩
      rcases List.mem_append.1 hp with hp | hp
      · exact ho p (List.mem_append_left _ hp)
      · simp at hp; subst hp; exact hv
    · rw [addP_new hz hx]
      refine ⟨(good_snoc _ (v, long)).2 ⟨h, .inr (by rw [lastV_snoc]; exact fun e => hx e.symm), by show 1 ≤ long; omega⟩, by rw [sumL_snoc], by simp, fun hv ho p hp => ?_⟩
      rcases List.mem_append.1 hp with hp | hp
      · exact ho p hp
      · simp at hp; subst hp; exact hv

section
variable {pcs : List Int} {size : Int} {before : List Int} {m : Int}
theorem piecesK_good (h : Code pcs size before m) (k : Nat) (hk : k ≤ pcs.length) :
    Good (piecesK pcs size before m k) ∧ sumL (piecesK pcs size before m k) * m = pAt pcs size k ∧ (piecesK pcs size before m k).length ≤ k ∧ ∀ p ∈ piecesK pcs size before m k, inI32 p.1 := by
  induction k with
  | zero => exact ⟨trivial, by simp [piecesK, sumL, h.p0], by simp [piecesK], by simp [piecesK]⟩
  | succ k ih =>
    obtain ⟨g1, g2, g3, g4⟩ := ih (by omega)
    have hd := h.mono k hk
    obtain ⟨a1, a2, a3, a4⟩ := addP_good (v := vAt before k) (long := (pAt pcs size (k + 1) - pAt pcs size k) / m) g1 (div_nonneg_of h.m1 (by omega))
    refine ⟨a1, ?_, by simp only [piecesK]; omega, a4 (vAt_in h.v32 k) g4⟩
    simp only [piecesK]
    rw [a2, Int.add_mul, g2, h.long hk]
    omega
theorem piecesK_ok (h : Code pcs size before m) (k : Nat) (hk : k ≤ pcs.length) : ∀ p ∈ piecesK pcs size before m k, PieceOk p := by
  obtain ⟨g1, g2, _, g4⟩ := piecesK_good h k hk
  obtain ⟨s1, s2⟩ := sumL_ge g1.pos
  have hle := h.le_size hk
  have hm := h.m1
  have hs := h.s31
  have : sumL (piecesK pcs size before m k) * 1 ≤ sumL (piecesK pcs size before m k) * m := Int.mul_le_mul_of_nonneg_left hm s1
  intro p hp
  have h1 := g1.pos p hp
  have h2 := s2 p hp
  exact ⟨g4 p hp, by omega, by omega⟩
theorem piecesOf_right (h : Code pcs size before m) : RightP (piecesOf pcs size before m) m := by
  obtain ⟨g1, g2, _, _⟩ := piecesK_good h pcs.length (Nat.le_refl _)
  rw [pAt_end] at g2
  have hl := h.last
  have h0 := h.nonneg (i := pcs.length - 1) (by omega)
  have hs := h.s31
  have hm := h.m1
  unfold piecesOf
  cases hp : piecesK pcs size before m pcs.length with
  | nil => rw [hp] at g2; simp [sumL] at g2; omega
  | cons p r =>
    rw [hp] at g1 g2
    exact ⟨g1.1, g1.2, hm, by omega⟩
theorem piecesOf_ok (h : Code pcs size before m) : ∀ p ∈ piecesOf pcs size before m, PieceOk p := piecesK_ok h _ (Nat.le_refl _)
theorem piecesOf_len (h : Code pcs size before m) : (piecesOf pcs size before m).length ≤ pcs.length := (piecesK_good h _ (Nat.le_refl _)).2.2.1

/-- What the writer keeps ahead of instruction k. -/
def WSt (pcs : List Int) (size : Int) (before : List Int) (m : Int) (k : Nat) (st : Bool) (old pc : Int) (dst : List UInt8) : Prop :=
  (st = false ∧ piecesK pcs size before m k = [] ∧ old = -1 ∧ pc = 0 ∧ dst = [] ∧ pAt pcs size k = 0) ∨
  (st = true ∧ ∃ ps, piecesK pcs size before m k = ps ++ [(old, (pAt pcs size k - pc) / m)] ∧ pc % m = 0 ∧ 0 ≤ pc ∧ pc < pAt pcs size k ∧ dst = bodyB (-1) ps ++ Lib.uvarint (Lib.zigzag (wrap32 (old - lastV (-1) ps))))

theorem WSt.zero (h : Code pcs size before m) : WSt pcs size before m 0 false (-1) 0 [] := .inl ⟨rfl, rfl, rfl, rfl, rfl, h.p0⟩
variable {k : Nat} {st : Bool} {old pc : Int} {dst : List UInt8}
theorem WSt.empty (w : WSt pcs size before m k st old pc dst) (e : pAt pcs size (k + 1) = pAt pcs size k) : WSt pcs size before m (k + 1) st old pc dst := by
  have hp : piecesK pcs size before m (k + 1) = piecesK pcs size before m k := by
    simp only [piecesK]
    rw [e, Int.sub_self, Int.zero_ediv, addP_zero]
  unfold WSt
  rw [hp, e]
  exact w
theorem WSt.same (h : Code pcs size before m) (hk : k < pcs.length) (w : WSt pcs size before m k true old pc dst) (hv : vAt before k = old) : WSt pcs size before m (k + 1) true old pc dst := by
  by_cases e : pAt pcs size (k + 1) = pAt pcs size k
  · exact w.empty e
  rcases w with ⟨h0, _⟩ | ⟨_, ps, w1, w2, w3, w4, w5⟩
  · cases h0
  have hmono := h.mono k hk
  have hlong := h.long hk
  have hpos := div_pos_of h.m1 hlong (by omega)
  refine .inr ⟨rfl, ps, ?_, w2, w3, by omega, w5⟩
  simp only [piecesK]
  rw [w1, hv, addP_same (by omega)]
  congr 3
  have d1 := h.dvd k (by omega)
  have d2 := h.dvd (k + 1) hk
  rw [← Int.add_ediv_of_dvd_left (Int.dvd_of_emod_eq_zero (sub_mod d1 w2))]
  congr 1
  omega
theorem WSt.first (h : Code pcs size before m) (hk : k < pcs.length) (w : WSt pcs size before m k false old pc dst) (e : pAt pcs size (k + 1) ≠ pAt pcs size k) :
    WSt pcs size before m (k + 1) true (vAt before k) pc (dst ++ Lib.uvarint (Lib.zigzag (wrap32 (vAt before k - old)))) := by
  rcases w with ⟨_, w1, rfl, rfl, rfl, w2⟩ | ⟨h0, _⟩
  · have hmono := h.mono k hk
    have hlong := h.long hk
    have hpos := div_pos_of h.m1 hlong (by omega)
    refine .inr ⟨rfl, [], ?_, by simp, by omega, by omega, by simp [bodyB, lastV]⟩
    simp only [piecesK]
    rw [w1, addP_nil (by omega), w2]
    rfl
  · cases h0
theorem WSt.more (h : Code pcs size before m) (hk : k < pcs.length) (w : WSt pcs size before m k true old pc dst) (hv : vAt before k ≠ old) (e : pAt pcs size (k + 1) ≠ pAt pcs size k) :
    WSt pcs size before m (k + 1) true (vAt before k) (pAt pcs size k) (dst ++ Lib.uvarint ((pAt pcs size k - pc) / m).toNat ++ Lib.uvarint (Lib.zigzag (wrap32 (vAt before k - old)))) := by
  rcases w with ⟨h0, _⟩ | ⟨_, ps, w1, w2, w3, w4, w5⟩
  · cases h0
  have hmono := h.mono k hk
  have hlong := h.long hk
  have hpos := div_pos_of h.m1 hlong (by omega)
  refine .inr ⟨rfl, ps ++ [(old, (pAt pcs size k - pc) / m)], ?_, h.dvd k (by omega), h.nonneg (by omega), by omega, ?_⟩
  · simp only [piecesK]
    rw [w1, addP_new (by omega) (fun e => hv e.symm)]
  · rw [w5, bodyB_snoc, lastV_snoc]
    simp only [encB, List.append_assoc]
theorem WSt.done (h : Code pcs size before m) (w : WSt pcs size before m pcs.length st old pc dst) : st = true ∧ 0 ≤ pc ∧ pc < size ∧ pc % m = 0 ∧ dst ++ Lib.uvarint ((size - pc) / m).toNat ++ [0] = tableB (-1) (piecesOf pcs size before m) := by
  rcases w with ⟨_, _, _, _, _, w2⟩ | ⟨h0, ps, w1, w2, w3, w4, w5⟩
  · rw [pAt_end] at w2
    have hl := h.last
    have h0 := h.nonneg (i := pcs.length - 1) (by omega)
    omega
  · rw [pAt_end] at w1 w4
    refine ⟨h0, w3, w4, w2, ?_⟩
    unfold piecesOf tableB
    rw [w1, w5, bodyB_snoc]
    simp only [encB, List.append_assoc]
theorem WSt.pc_le (w : WSt pcs size before m k st old pc dst) : 0 ≤ pc ∧ pc ≤ pAt pcs size k := by
  rcases w with ⟨_, _, _, rfl, _, w2⟩ | ⟨_, ps, w1, w2, w3, w4, w5⟩
  · omega
  · omega
theorem WSt.len (h : Code pcs size before m) (hk : k ≤ pcs.length) (w : WSt pcs size before m k st old pc dst) : dst.length ≤ 10 * k + 5 := by
  rcases w with ⟨_, _, _, _, rfl, _⟩ | ⟨_, ps, w1, _, _, _, rfl⟩
  · simp
  · have hl := (piecesK_good h k hk).2.2.1
    have hok := piecesK_ok h k hk
    rw [w1] at hl hok
    have h1 := bodyB_len (-1) ps (fun p hp => hok p (List.mem_append_left _ hp))
    have h2 := uv5 _ (zig_lt (old - lastV (-1) ps))
    simp only [List.length_append, List.length_cons, List.length_nil] at hl ⊢
    omega
theorem WSt.old32 (h : Code pcs size before m) (hk : k ≤ pcs.length) (w : WSt pcs size before m k st old pc dst) : inI32 old := by
  rcases w with ⟨_, _, rfl, _⟩ | ⟨_, ps, w1, _, _, _, _⟩
  · unfold inI32; omega
  · have hok := (piecesK_ok h k hk)
    rw [w1] at hok
    exact (hok _ (List.mem_append_right _ (List.mem_cons.2 (.inl rfl)))).1
end

/-- A function whose places are all so many times those of another one. -/
theorem pAt_far (pcs : List Int) (size m : Int) (i : Nat) : pAt (pcs.map (· * m)) (size * m) i = pAt pcs size i * m := by
  unfold pAt
  rw [List.getElem?_map]
  cases pcs[i]? <;> simp
theorem piecesK_far (pcs : List Int) (size : Int) (before : List Int) (m : Int) (hm : 1 ≤ m) (k : Nat) : piecesK (pcs.map (· * m)) (size * m) before m k = piecesK pcs size before 1 k := by
  induction k with
  | zero => rfl
  | succ k ih =>
    simp only [piecesK]
    rw [ih, pAt_far, pAt_far, ← Int.sub_mul, Int.mul_ediv_cancel _ (by omega), Int.ediv_one]
theorem piecesOf_far (pcs : List Int) (size : Int) (before : List Int) (m : Int) (hm : 1 ≤ m) : piecesOf (pcs.map (· * m)) (size * m) before m = piecesOf pcs size before 1 := by
  unfold piecesOf
  rw [List.length_map]
  exact piecesK_far pcs size before m hm _
theorem Code.far {pcs : List Int} {size : Int} {before : List Int} {m : Int} (h : Code pcs size before 1) (hm : 1 ≤ m) (hm2 : m ≤ 16) (hs : size < 134217728) : Code (pcs.map (· * m)) (size * m) before m := by
  have hl := h.last
  have h0 := h.nonneg (i := pcs.length - 1) (by omega)
  refine ⟨by rw [List.length_map]; exact h.n1, by rw [List.length_map]; exact h.nb, hm, hm2, by rw [pAt_far, h.p0]; omega, fun i hi => ?_, ?_, ?_, fun i hi => ?_, h.v32⟩
  · rw [List.length_map] at hi
    rw [pAt_far, pAt_far]
    exact Int.mul_le_mul_of_nonneg_right (h.mono i hi) (by omega)
  · rw [List.length_map, pAt_far]
    exact Int.mul_lt_mul_of_pos_right hl (by omega)
  · have : size * m ≤ size * 16 := Int.mul_le_mul_of_nonneg_left hm2 (by omega)
    omega
  · rw [pAt_far]
    exact Int.mul_emod_left _ _
end Go.Proofs.Ytmadidaiaggheaa
