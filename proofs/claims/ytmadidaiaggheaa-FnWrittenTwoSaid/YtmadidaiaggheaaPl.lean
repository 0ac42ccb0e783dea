/- Plain words for tables: the bytes of pieces, their ranges, and what a reader finds. No program in sight. -/
import Derived.RowKit
import Derived.Lib.Varint
namespace Go.Proofs.Ytmadidaiaggheaa
open Go.RowKit

/-- A piece: a value, and for how many quanta it stands. -/
def inI32 (x : Int) : Prop := -2147483648 ≤ x ∧ x ≤ 2147483647
def inU32 (x : Int) : Prop := 0 ≤ x ∧ x < 4294967296
def PieceOk (p : Int × Int) : Prop := inI32 p.1 ∧ inU32 p.2

theorem wrap32_in (x : Int) : inI32 (wrap32 x) := by unfold wrap32 inI32; omega
theorem wrap32_id {x : Int} (h : inI32 x) : wrap32 x = x := by unfold wrap32; unfold inI32 at h; omega
theorem wrap32_back {v x : Int} (hx : inI32 x) : wrap32 (v + wrap32 (x - v)) = x := by unfold wrap32; unfold inI32 at hx; omega
theorem wrap32_ne {v x : Int} (hv : inI32 v) (hx : inI32 x) (h : x ≠ v) : wrap32 (x - v) ≠ 0 := by unfold wrap32; unfold inI32 at hx hv; omega

/-- The bytes of one piece behind the value v. -/
def encB (v : Int) (p : Int × Int) : List UInt8 := Lib.uvarint (Lib.zigzag (wrap32 (p.1 - v))) ++ Lib.uvarint p.2.toNat
/-- The bytes of pieces. -/
def bodyB : Int → List (Int × Int) → List UInt8
  | _, [] => []
  | v, p :: r => encB v p ++ bodyB p.1 r
def tableB (v : Int) (ps : List (Int × Int)) : List UInt8 := bodyB v ps ++ [0]
def lastV : Int → List (Int × Int) → Int
  | v, [] => v
  | _, p :: r => lastV p.1 r

theorem bodyB_snoc (v : Int) (ps : List (Int × Int)) (p : Int × Int) : bodyB v (ps ++ [p]) = bodyB v ps ++ encB (lastV v ps) p := by
  induction ps generalizing v with
  | nil => simp [bodyB, lastV]
  | cons a r ih => simp [bodyB, lastV, ih]
theorem lastV_snoc (v : Int) (ps : List (Int × Int)) (p : Int × Int) : lastV v (ps ++ [p]) = p.1 := by
  induction ps generalizing v with
  | nil => rfl
  | cons a r ih => simp [lastV, ih]
theorem tableB_cons (v : Int) (p : Int × Int) (r : List (Int × Int)) : tableB v (p :: r) = Lib.uvarint (Lib.zigzag (wrap32 (p.1 - v))) ++ (Lib.uvarint p.2.toNat ++ tableB p.1 r) := by
  simp [tableB, bodyB, encB]
theorem zig_lt (x : Int) : Lib.zigzag (wrap32 x) < 4294967296 := by
  have := wrap32_in x
  unfold inI32 at this
  unfold Lib.zigzag; split <;> omega
theorem uv5 (y : Nat) (h : y < 4294967296) : (Lib.uvarint y).length ≤ 5 := Lib.uvarint_length 4 y (by omega)
theorem encB_len (v : Int) (p : Int × Int) (h : PieceOk p) : (encB v p).length ≤ 10 := by
  unfold encB
  rw [List.length_append]
  have := uv5 _ (zig_lt (p.1 - v))
  have := uv5 p.2.toNat (by have := h.2; unfold inU32 at this; omega)
  omega
theorem bodyB_len (v : Int) (ps : List (Int × Int)) (h : ∀ p ∈ ps, PieceOk p) : (bodyB v ps).length ≤ 10 * ps.length := by
  induction ps generalizing v with
  | nil => simp [bodyB]
  | cons a r ih =>
    have h1 := encB_len v a (h a (List.mem_cons.2 (.inl rfl)))
    have h2 := ih a.1 (fun p hp => h p (List.mem_cons.2 (.inr hp)))
    simp only [bodyB, List.length_append, List.length_cons]
    omega
theorem tableB_len (v : Int) (ps : List (Int × Int)) (h : ∀ p ∈ ps, PieceOk p) : (tableB v ps).length ≤ 10 * ps.length + 1 := by
  have := bodyB_len v ps h
  simp [tableB]; omega

/-- Pieces with lengths, each with another value than the one before it, v before the first. -/
def Alt : Int → List (Int × Int) → Prop
  | _, [] => True
  | v, p :: r => p.1 ≠ v ∧ 1 ≤ p.2 ∧ Alt p.1 r
def sumL : List (Int × Int) → Int
  | [] => 0
  | p :: r => p.2 + sumL r
theorem sumL_nonneg (ps : List (Int × Int)) (h : ∀ p ∈ ps, PieceOk p) : 0 ≤ sumL ps := by
  induction ps with
  | nil => simp [sumL]
  | cons a r ih =>
    have h1 := (h a (List.mem_cons.2 (.inl rfl))).2
    have h2 := ih (fun p hp => h p (List.mem_cons.2 (.inr hp)))
    unfold inU32 at h1
    simp only [sumL]; omega
theorem sumL_snoc (ps : List (Int × Int)) (p : Int × Int) : sumL (ps ++ [p]) = sumL ps + p.2 := by
  induction ps with
  | nil => simp [sumL]
  | cons a r ih => simp only [List.cons_append, sumL, ih]; omega
theorem Alt_snoc (v : Int) (ps : List (Int × Int)) (p : Int × Int) : Alt v (ps ++ [p]) ↔ Alt v ps ∧ p.1 ≠ lastV v ps ∧ 1 ≤ p.2 := by
  induction ps generalizing v with
  | nil => simp [Alt, lastV]
  | cons a r ih => simp only [List.cons_append, Alt, lastV, ih]; constructor <;> (rintro h; simp_all)

/-- What 'Right' of the reference tells. The first piece may have any value. -/
def RightP : List (Int × Int) → Int → Prop
  | [], _ => False
  | p :: r, s => 1 ≤ p.2 ∧ Alt p.1 r ∧ 1 ≤ s ∧ sumL (p :: r) * s < 4294967296

/-- The ranges of pieces, from a place on. -/
def rangesL (s : Int) : Int → List (Int × Int) → List (Int × Int × Int)
  | _, [] => []
  | a, p :: r => (p.1, a, a + p.2 * s) :: rangesL s (a + p.2 * s) r
theorem rangesL_snoc (s a : Int) (ps : List (Int × Int)) (p : Int × Int) : rangesL s a (ps ++ [p]) = rangesL s a ps ++ [(p.1, a + sumL ps * s, a + sumL ps * s + p.2 * s)] := by
  induction ps generalizing a with
  | nil => simp [rangesL, sumL]
  | cons q r ih =>
    simp only [List.cons_append, rangesL, ih, sumL]
    rw [show a + q.2 * s + sumL r * s = a + (q.2 + sumL r) * s by rw [Int.add_mul]; omega]
theorem rangesL_len (s a : Int) (ps : List (Int × Int)) : (rangesL s a ps).length = ps.length := by
  induction ps generalizing a with
  | nil => rfl
  | cons q r ih => simp [rangesL, ih]

/-- What the other reader finds at a place. -/
def valAt (s : Int) : Int → List (Int × Int) → Int
  | _, [] => -1
  | t, p :: r => if t < p.2 * s then p.1 else valAt s (t - p.2 * s) r
/-- What 'At' of the reference tells. -/
def atL : Int → List (Int × Int) → Int × Bool
  | _, [] => (-1, false)
  | t, p :: r => if t < p.2 then (p.1, true) else atL (t - p.2) r
theorem div_lt_iff {t n s : Int} (hs : 1 ≤ s) : t / s < n ↔ t < n * s := Int.ediv_lt_iff_lt_mul (by omega)
theorem valAt_atL (s : Int) (hs : 1 ≤ s) (t : Int) (ps : List (Int × Int)) : valAt s t ps = (atL (t / s) ps).1 := by
  induction ps generalizing t with
  | nil => rfl
  | cons p r ih =>
    simp only [valAt, atL]
    by_cases h : t < p.2 * s
    · rw [if_pos h, if_pos ((div_lt_iff hs).2 h)]
    · rw [if_neg h, if_neg (fun h2 => h ((div_lt_iff hs).1 h2)), ih]
      rw [show (t - p.2 * s) / s = t / s - p.2 by rw [Int.sub_mul_ediv_right _ _ (by omega)]]
theorem atL_none (u : Int) (ps : List (Int × Int)) (h : (atL u ps).2 = false) : (atL u ps).1 = -1 := by
  induction ps generalizing u with
  | nil => rfl
  | cons p r ih =>
    unfold atL at h ⊢
    split at h
    · cases h
    · rename_i hc; rw [if_neg hc]; exact ih _ h
theorem sumL_append (a b : List (Int × Int)) : sumL (a ++ b) = sumL a + sumL b := by
  induction a with
  | nil => simp [sumL]
  | cons q r ih => simp only [List.cons_append, sumL, ih]; omega
theorem sumL_take_le (ps : List (Int × Int)) (h : ∀ p ∈ ps, PieceOk p) (k : Nat) : 0 ≤ sumL (ps.take k) ∧ sumL (ps.take k) ≤ sumL ps := by
  have h1 := sumL_nonneg (ps.take k) (fun p hp => h p (List.mem_of_mem_take hp))
  have h2 := sumL_nonneg (ps.drop k) (fun p hp => h p (List.mem_of_mem_drop hp))
  have h3 := sumL_append (ps.take k) (ps.drop k)
  rw [List.take_append_drop] at h3
  omega
theorem RightP.scale {ps : List (Int × Int)} {s : Int} (h : RightP ps s) : 1 ≤ s ∧ sumL ps * s < 4294967296 ∧ ps ≠ [] := by
  cases ps with
  | nil => exact absurd h id
  | cons p r => exact ⟨h.2.2.1, h.2.2.2, by simp⟩
end Go.Proofs.Ytmadidaiaggheaa
