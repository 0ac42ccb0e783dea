/- Plain: the steps of a table. -/
import Derived.Test.YtmadidaiaggheaaPl
namespace Go.Proofs.Ytmadidaiaggheaa
open Go.RowKit

/-- What is left of a table behind its first k pieces. -/
structure SInv (s : Int) (ps : List (Int × Int)) (k : Nat) (v place : Int) : Prop where
  iv : inI32 v
  hv : v = lastV (-1) (ps.take k)
  hp : place = sumL (ps.take k) * s
theorem SInv.zero (s : Int) (ps : List (Int × Int)) : SInv s ps 0 (-1) 0 := ⟨by unfold inI32; omega, rfl, by simp [sumL]⟩

structure SStep (s : Int) (ps : List (Int × Int)) (k : Nat) (v place x y m : Int) : Prop where
  x32 : inI32 x
  y32 : inU32 y
  hm : y * s % 4294967296 = m
  m0 : 0 ≤ m
  p0 : 0 ≤ place
  le : place + m < 4294967296
  back : wrap32 (v + wrap32 (x - v)) = x
  ne : wrap32 (x - v) ≠ 0 ∨ k = 0
  next : SInv s ps (k + 1) x (place + m)
  rng : (rangesL s 0 ps)[k]? = some (x, place, place + m)

theorem Alt_get {v : Int} {ps : List (Int × Int)} (h : Alt v ps) {k : Nat} (hk : k < ps.length) : (ps[k]).1 ≠ lastV v (ps.take k) := by
  induction ps generalizing v k with
  | nil => simp at hk
  | cons p r ih =>
    cases k with
    | zero => exact h.1
    | succ k => exact ih h.2.2 (by simpa using hk)
theorem rangesL_get (s a : Int) (ps : List (Int × Int)) {k : Nat} (hk : k < ps.length) : (rangesL s a ps)[k]? = some ((ps[k]).1, a + sumL (ps.take k) * s, a + sumL (ps.take k) * s + (ps[k]).2 * s) := by
  induction ps generalizing a k with
  | nil => simp at hk
  | cons p r ih =>
    cases k with
    | zero => simp [rangesL, sumL]
    | succ k =>
      have := ih (a + p.2 * s) (k := k) (by simpa using hk)
      simp only [rangesL, List.getElem?_cons_succ, this, List.getElem_cons_succ, List.take_succ_cons, sumL]
      rw [show a + p.2 * s + sumL (r.take k) * s = a + (p.2 + sumL (r.take k)) * s by rw [Int.add_mul]; omega]

theorem SInv.step {s : Int} {ps : List (Int × Int)} {k : Nat} {v place : Int} (h : SInv s ps k v place) (hr : RightP ps s) (hok : ∀ p ∈ ps, PieceOk p) (hk : k < ps.length) : ∃ m, SStep s ps k v place (ps[k]).1 (ps[k]).2 m := by
  obtain ⟨hs1, hs2, _⟩ := hr.scale
  obtain ⟨hx, hy⟩ := hok _ (List.getElem_mem hk)
  have ht := List.take_succ_eq_append_getElem hk
  have h1 := sumL_take_le ps hok (k + 1)
  have h0 := sumL_take_le ps hok k
  rw [ht, sumL_snoc] at h1
  have hle : (sumL (ps.take k) + (ps[k]).2) * s ≤ sumL ps * s := Int.mul_le_mul_of_nonneg_right h1.2 (by omega)
  rw [Int.add_mul, ← h.hp] at hle
  have hys : 0 ≤ (ps[k]).2 * s := Int.mul_nonneg hy.1 (by omega)
  have hp0 : 0 ≤ place := by rw [h.hp]; exact Int.mul_nonneg h0.1 (by omega)
  have hg := rangesL_get s 0 ps hk
  rw [Int.zero_add, ← h.hp] at hg
  refine ⟨(ps[k]).2 * s, ⟨hx, hy, by omega, hys, hp0, by omega, wrap32_back hx, ?_, ⟨hx, by rw [ht, lastV_snoc], by rw [ht, sumL_snoc, Int.add_mul, ← h.hp]⟩, hg⟩⟩
  by_cases hk0 : k = 0
  · exact .inr hk0
  · left
    refine wrap32_ne h.iv hx ?_
    cases ps with
    | nil => simp at hk
    | cons p r =>
      obtain ⟨j, rfl⟩ : ∃ j, k = j + 1 := ⟨k - 1, by omega⟩
      have := Alt_get hr.2.1 (k := j) (by simpa using hk)
      rw [h.hv]
      simpa [lastV] using this

end Go.Proofs.Ytmadidaiaggheaa
