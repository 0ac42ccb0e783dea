/- Plain: the ranges of a table, one by one, and what the other reader finds in them. -/
import Derived.Test.YtmnjcngjhpdmeaaPlS
namespace Go.Proofs.Ytmnjcngjhpdmeaa
open Go.RowKit

theorem alt_pos {v : Int} {ps : List (Int × Int)} (h : Alt v ps) : ∀ p ∈ ps, 1 ≤ p.2 := by
  induction ps generalizing v with
  | nil => simp
  | cons q r ih =>
    intro p hp
    rcases List.mem_cons.1 hp with rfl | hp
    · exact h.2.1
    · exact ih h.2.2 p hp
theorem right_pos {ps : List (Int × Int)} {s : Int} (h : RightP ps s) : ∀ p ∈ ps, 1 ≤ p.2 := by
  cases ps with
  | nil => simp
  | cons q r =>
    intro p hp
    rcases List.mem_cons.1 hp with rfl | hp
    · exact h.1
    · exact alt_pos h.2.1 p hp
theorem right_one {ps : List (Int × Int)} {s : Int} (h : RightP ps s) (hok : ∀ p ∈ ps, PieceOk p) : RightP ps 1 := by
  have h0 := sumL_nonneg ps hok
  obtain ⟨h1, h2, _⟩ := h.scale
  have : sumL ps * 1 ≤ sumL ps * s := Int.mul_le_mul_of_nonneg_left h1 h0
  cases ps with
  | nil => exact h
  | cons q r => exact ⟨h.1, h.2.1, by omega, by omega⟩

theorem valAt_in {s : Int} (hs : 0 ≤ s) (ps : List (Int × Int)) (hok : ∀ p ∈ ps, 0 ≤ p.2) (t : Int) (k : Nat) (hk : k < ps.length) (h1 : sumL (ps.take k) * s ≤ t) (h2 : t < sumL (ps.take (k + 1)) * s) : valAt s t ps = (ps[k]).1 := by
  induction ps generalizing t k with
  | nil => simp at hk
  | cons p r ih =>
    cases k with
    | zero =>
      simp [sumL] at h2
      rw [valAt, if_pos h2]
      rfl
    | succ k =>
      have hk' : k < r.length := by simpa using hk
      have h0 : 0 ≤ sumL (r.take k) := by
        clear ih h1 h2
        have hr : ∀ p ∈ r.take k, 0 ≤ p.2 := fun q hq => hok q (List.mem_cons.2 (.inr (List.mem_of_mem_take hq)))
        revert hr
        generalize r.take k = l
        intro hr
        induction l with
        | nil => simp [sumL]
        | cons a l ih =>
          have := hr a (List.mem_cons.2 (.inl rfl))
          have := ih (fun q hq => hr q (List.mem_cons.2 (.inr hq)))
          simp only [sumL]; omega
      have h3 : 0 ≤ sumL (r.take k) * s := Int.mul_nonneg h0 hs
      simp only [List.take_succ_cons, sumL, Int.add_mul] at h1 h2
      rw [valAt, if_neg (by omega), ih (fun q hq => hok q (List.mem_cons.2 (.inr hq))) (t - p.2 * s) k hk' (by omega) (by omega)]
      simp

/-- Range k: its value, where it begins, where it ends. -/
structure RngK (s : Int) (ps : List (Int × Int)) (k : Nat) (x a b : Int) : Prop where
  rng : (rangesL s 0 ps)[k]? = some (x, a, b)
  ea : a = sumL (ps.take k) * s
  eb : b = sumL (ps.take (k + 1)) * s
  a0 : 0 ≤ a
  ab : a < b
  b1 : b < 4294967296
  x32 : inI32 x
  va : valAt s a ps = x
  vb : valAt s (b - 1) ps = x
theorem rngK {s : Int} {ps : List (Int × Int)} (h : RightP ps s) (hok : ∀ p ∈ ps, PieceOk p) {k : Nat} (hk : k < ps.length) : RngK s ps k (ps[k]).1 (sumL (ps.take k) * s) (sumL (ps.take (k + 1)) * s) := by
  obtain ⟨h1, h2, _⟩ := h.scale
  have hg := rangesL_get s 0 ps hk
  have ht := List.take_succ_eq_append_getElem hk
  have hy := right_pos h _ (List.getElem_mem hk)
  have hx := (hok _ (List.getElem_mem hk)).1
  have k0 := sumL_take_le ps hok k
  have k1 := sumL_take_le ps hok (k + 1)
  have hle : sumL (ps.take (k + 1)) * s ≤ sumL ps * s := Int.mul_le_mul_of_nonneg_right k1.2 (by omega)
  have ha0 : 0 ≤ sumL (ps.take k) * s := Int.mul_nonneg k0.1 (by omega)
  have hys : 1 * 1 ≤ (ps[k]).2 * s := Int.mul_le_mul hy h1 (by omega) (by omega)
  have e : sumL (ps.take (k + 1)) * s = sumL (ps.take k) * s + (ps[k]).2 * s := by rw [ht, sumL_snoc, Int.add_mul]
  rw [Int.zero_add, ← e] at hg
  have hn : ∀ p ∈ ps, 0 ≤ p.2 := fun p hp => (hok p hp).2.1
  exact ⟨hg, rfl, rfl, ha0, by omega, by omega, hx, valAt_in (by omega) ps hn _ k hk (by omega) (by omega), valAt_in (by omega) ps hn _ k hk (by omega) (by omega)⟩
end Go.Proofs.Ytmnjcngjhpdmeaa
