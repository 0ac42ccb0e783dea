/- The walk of the law FnSteps. -/
import Derived.Test.YtmnjcngjhpdmeaaZStep
import Derived.Test.YtmnjcngjhpdmeaaRng
import Derived.Test.YtmnjcngjhpdmeaaVal
import Derived.Test.YtmnjcngjhpdmeaaLaw
namespace Go.Proofs.Ytmnjcngjhpdmeaa
open Go.RowKit
set_option linter.unusedVariables false

/-- What is left of a table behind its first k pieces. -/
structure SInv (s : Int) (ps : List (Int × Int)) (k : Nat) (v place : Int) : Prop where
  iv : inI32 v
  hv : v = lastV (-1) (ps.take k)
  hp : place = sumL (ps.take k) * s
theorem SInv.zero (s : Int) (ps : List (Int × Int)) : SInv s ps 0 (-1) 0 := ⟨by unfold inI32; omega, rfl, by simp [sumL]⟩

structure SStep (s : Int) (ps : List (Int × Int)) (k : Nat) (v place x y m : Int) : Prop where
  x32 : inI32 x
  y32 : inU32 y
  hm : y * s % 4294967296 = m
  m0 : 0 ≤ m
  p0 : 0 ≤ place
  le : place + m < 4294967296
  back : wrap32 (v + wrap32 (x - v)) = x
  ne : wrap32 (x - v) ≠ 0 ∨ k = 0
  next : SInv s ps (k + 1) x (place + m)
  rng : (rangesL s 0 ps)[k]? = some (x, place, place + m)

theorem Alt_get {v : Int} {ps : List (Int × Int)} (h : Alt v ps) {k : Nat} (hk : k < ps.length) : (ps[k]).1 ≠ lastV v (ps.take k) := by
  induction ps generalizing v k with
  | nil => simp at hk
  | cons p r ih =>
    cases k with
    | zero => exact h.1
    | succ k => exact ih h.2.2 (by simpa using hk)
theorem rangesL_get (s a : Int) (ps : List (Int × Int)) {k : Nat} (hk : k < ps.length) : (rangesL s a ps)[k]? = some ((ps[k]).1, a + sumL (ps.take k) * s, a + sumL (ps.take k) * s + (ps[k]).2 * s) := by
  induction ps generalizing a k with
  | nil => simp at hk
  | cons p r ih =>
    cases k with
    | zero => simp [rangesL, sumL]
    | succ k =>
      have := ih (a + p.2 * s) (k := k) (by simpa using hk)
      simp only [rangesL, List.getElem?_cons_succ, this, List.getElem_cons_succ, List.take_succ_cons, sumL]
      rw [show a + p.2 * s + sumL (r.take k) * s = a + (p.2 + sumL (r.take k)) * s by rw [Int.add_mul]; omega]

theorem SInv.step {s : Int} {ps : List (Int × Int)} {k : Nat} {v place : Int} (h : SInv s ps k v place) (hr : RightP ps s) (hok : ∀ p ∈ ps, PieceOk p) (hk : k < ps.length) : ∃ m, SStep s ps k v place (ps[k]).1 (ps[k]).2 m := by
  obtain ⟨hs1, hs2, _⟩ := hr.scale
  obtain ⟨hx, hy⟩ := hok _ (List.getElem_mem hk)
  have ht := List.take_succ_eq_append_getElem hk
  have h1 := sumL_take_le ps hok (k + 1)
  have h0 := sumL_take_le ps hok k
  rw [ht, sumL_snoc] at h1
  have hle : (sumL (ps.take k) + (ps[k]).2) * s ≤ sumL ps * s := Int.mul_le_mul_of_nonneg_right h1.2 (by omega)
  rw [Int.add_mul, ← h.hp] at hle
  have hys : 0 ≤ (ps[k]).2 * s := Int.mul_nonneg hy.1 (by omega)
  have hp0 : 0 ≤ place := by rw [h.hp]; exact Int.mul_nonneg h0.1 (by omega)
  have hg := rangesL_get s 0 ps hk
  rw [Int.zero_add, ← h.hp] at hg
  refine ⟨(ps[k]).2 * s, ⟨hx, hy, by omega, hys, hp0, by omega, wrap32_back hx, ?_, ⟨hx, by rw [ht, lastV_snoc], by rw [ht, sumL_snoc, Int.add_mul, ← h.hp]⟩, hg⟩⟩
  by_cases hk0 : k = 0
  · exact .inr hk0
  · left
    refine wrap32_ne h.iv hx ?_
    cases ps with
    | nil => simp at hk
    | cons p r =>
      obtain ⟨j, rfl⟩ : ∃ j, k = j + 1 := ⟨k - 1, by omega⟩
      have := Alt_get hr.2.1 (k := j) (by simpa using hk)
      rw [h.hv]
      simpa [lastV] using this

theorem OwnR.slr {w : World} {base n c : Nat} {A : Option Addr} {rs : List (Int × Int × Int)} (h : OwnR w base (.slice A n c) rs) : SlR w w.heap.size A n c rs := by
  obtain ⟨A', n', c', e, h'⟩ := h.sl
  cases e
  exact h'
theorem OwnR.set {w : World} {base : Nat} {v : Value} {rs : List (Int × Int × Int)} (h : OwnR w base v rs) {a : Addr} (ha : a.block < base) (u : Value) : OwnR (w.setCell a u) base v rs :=
  h.kept (row := some a.block) ⟨rfl, rfl, rfl, by simp [World.setCell], fun i _ hne => Below.heap_setCell _ _ _ _ (fun e => hne (by rw [e]))⟩ (.inr (fun e => by have := (h.lt _ e).1; omega))

/-- The relation of the loop: the point lies in block g. -/
def StRel (w : World) (g n : Nat) (s : Int) (ps : List (Int × Int)) (AR : Option Addr) (nR cR : Nat) (vrest vi : Value) (wr : World) : Prop :=
  ∃ (k : Nat) (v place : Int) (A : Option Addr) (n' c' : Nat), vi = .int .i64 k ∧ k ≤ n ∧ SInv s ps k v place ∧ vrest = .slice A n' c' ∧ Sl wr wr.heap.size A n' c' (tableB v (ps.drop k)) ∧ wr.heap[g]? = some (.cells #[.int .u64 place, .int .i32 v] 33 (0, 0)) ∧
    OwnR wr (g + 1) (.slice AR nR cR) (rangesL s 0 ps) ∧ g < wr.heap.size ∧ Below w.heap.size w wr

theorem fnSteps_main (A : Option Addr) (n c : Nat) (ps : List (Int × Int)) (s : Int) (w : World) (hs : Hid (SlP w w.heap.size A n c ps)) (hn : n ≤ 2147483647) (s0 : 0 ≤ s) (s1 : s < 4294967296) :
    Calls Try.prog 9 #[.slice A n c, .int .u32 s] w (Lawful w) := by
  go_enter Try.func9, Try.ntmps9
  go_wp2_with fail
  refine (right_any A n c ps s w hs s0 s1).mono ?_
  rintro e w1 ⟨r, rfl, hr, hb1⟩
  have HB1 := Lib.hid hb1
  cases r
  · clear hr hb1
    go_wp2
    go_ret
    exact ⟨rfl, HB1.out⟩
  have HR := Lib.hid (hr rfl)
  have hz1 := hb1.size
  have HS1 := Lib.hid (show SlP w1 w1.heap.size A n c ps from (hs.out.below hb1).keep hz1 (fun _ _ _ => rfl))
  clear hr hb1
  go_wp2_with fail
  refine (table_any A n c ps w1 HS1 hn).mono ?_
  rintro e w2 ⟨v2, rfl, hown2, hb2⟩
  obtain ⟨A2, n2, c2, rfl, hs2⟩ := hown2.sl
  have hz2 := hb2.size
  have HS2 := Lib.hid hs2
  have HB2 := Lib.hid (HB1.out.trans (hb2.mono hz1))
  have HP2 := Lib.hid (show SlP (w2.alloc (.cells #[.int .u64 0, .int .i32 (-1)] 33)) (w2.alloc (.cells #[.int .u64 0, .int .i32 (-1)] 33)).heap.size A n c ps from ((HS1.out.below hb2).below ((Below.refl _ _).alloc hz2 _)).keep (by simp; omega) (fun _ _ _ => rfl))
  clear hown2 hs2 hb2
  go_wp2_with fail
  refine (ranges_any A n c ps s _ HP2 hn HR).mono ?_
  rintro e w3 ⟨v3, rfl, hown3, hb3⟩
  obtain ⟨AR, nR, cR, rfl, hsR⟩ := hown3.sl
  have hz3 := hb3.size
  simp at hz3
  have hnR : nR = n := by rw [← hsR.len, rangesL_len]; exact hs.out.len
  subst hnR
  have HO3 := Lib.hid (show OwnR w3 (w2.heap.size + 1) (.slice AR nR cR) (rangesL s 0 ps) by simpa using hown3)
  have HB3 := Lib.hid (show Below w.heap.size w w3 from (HB2.out.alloc (by omega) _).trans (hb3.mono (by simp; omega)))
  have HS3 := Lib.hid (show Sl w3 w3.heap.size A2 n2 c2 (tableB (-1) ps) from ((HS2.out.alloc (Nat.le_refl _) _).below (hb3.mono (by simp))).more (by omega))
  have HK3 := Lib.hid (show w3.heap[w2.heap.size]? = some (.cells #[.int .u64 0, .int .i32 (-1)] 33 (0, 0)) from (hb3.block _ (by simp)).trans (heap_alloc_new w2 _))
  clear hown3 hb3 hsR
  go_wp2
  go_loopw [6, 27] (fun vrest vi wr => StRel w w2.heap.size nR s ps AR nR cR vrest vi wr) (fun _ vi _ => nR - (intOf vi).toNat)
  case atStart => exact ⟨0, -1, 0, A2, n2, c2, rfl, Nat.zero_le _, SInv.zero s ps, rfl, HS3.out, HK3.out, HO3.out, by omega, HB3.out⟩
  case round =>
    obtain ⟨k, v, place, Ar, nr, cr, rfl, hk, hi, rfl, hsl, hblk, hown, hg, hb⟩ := hrel
    have HI := Lib.hid hi
    have HSl := Lib.hid hsl
    have HO := Lib.hid hown
    have HB := Lib.hid hb
    have HK := Lib.hid hblk
    have kp : wr.cell? ⟨w2.heap.size, 0, none⟩ = some (.int .u64 place) := cell_of_row wr _ 0 _ _ _ hblk
    have kv : wr.cell? ⟨w2.heap.size, 1, none⟩ = some (.int .i32 v) := cell_of_row wr _ 1 _ _ _ hblk
    have hbs := hb.size
    clear hsl hown hb hblk hi HS1 HP2 HS2 HS3 HO3 HK3
    by_cases hlt : k < nR
    · have hkl : k < ps.length := by have := hs.out.len; omega
      obtain ⟨m, hst⟩ := HI.out.step HR.out hs.out.ok hkl
      have hd := drop_at hkl
      have hrl : (rangesL s 0 ps).length = nR := by rw [rangesL_len]; exact hs.out.len
      obtain ⟨bR, oR, rfl, hbR, hcR⟩ := HO.out.slr.at_ (by omega)
      obtain ⟨c1, c2', c3⟩ := hcR k (by omega)
      have hrg : (rangesL s 0 ps)[k]'(by omega) = ((ps[k]).1, place, place + m) := by
        have := hst.rng
        rw [List.getElem?_eq_getElem (by omega)] at this
        injection this
      rw [hrg] at c1 c2' c3
      simp only at c1 c2' c3
      have htl := tableB_len (ps[k]).1 (ps.drop (k + 1)) (fun p hp => hs.out.ok p (List.mem_of_mem_drop hp))
      have htl0 := tableB_len v (ps.drop k) (fun p hp => hs.out.ok p (List.mem_of_mem_drop hp))
      have hdl : (ps.drop (k + 1)).length ≤ nR := by rw [List.length_drop]; have := hs.out.len; omega
      have hdl0 : (ps.drop k).length ≤ nR := by rw [List.length_drop]; have := hs.out.len; omega
      have HSx := Lib.hid (show Sl wr wr.heap.size Ar nr cr (tableB v (ps.drop k)) from HSl.out)
      rw [hd] at HSx htl0
      clear hrg hcR
      generalize hq : ps[k] = q at *
      obtain ⟨x, y⟩ := q
      simp only at c1 c2' c3 hst htl
      rw [tableB_cons] at HSx htl0
      have hx := hst.x32
      obtain ⟨y0, y1⟩ := hst.y32
      have m0 := hst.m0
      have p0 := hst.p0
      have hle := hst.le
      have HST := Lib.hid hst
      have hw := wrap32_in (x - v)
      have HW := Lib.hid hw
      obtain ⟨fb, hfb⟩ : ∃ fb : Bool, ((k : Int) == 0) = fb := ⟨_, rfl⟩
      have HNE := Lib.hid (show wrap32 (x - v) ≠ 0 ∨ fb = true from hst.ne.imp id (fun h => by rw [← hfb, h]; rfl))
      have HTL := Lib.hid (show (tableB x (ps.drop (k + 1))).length ≤ 70368744177664 by omega)
      have HTL0 := Lib.hid (show (Lib.uvarint (Lib.zigzag (wrap32 (x - v))) ++ (Lib.uvarint y.toNat ++ tableB x (ps.drop (k + 1)))).length ≤ 70368744177664 by simp only [List.length_cons] at htl0; omega)
      have hbR2 : bR < wr.heap.size := hbR
      clear hst hw htl htl0 hd hq hx hkl
      go_wp2_with fail
      refine (istepF_of s place v (place + m) (wrap32 (v + wrap32 (x - v))) fb true Ar nr cr wr.heap.size _ (tableB x (ps.drop (k + 1))) _ (Lib.hid (HSx.out.alloc (Nat.le_refl _) _)) (by simp) HTL0 HTL
        (Lib.hid (fun A n c B w hs hB => zstep_any s place v (wrap32 (x - v)) y m fb A n c B _ w (Lib.hid hs) hB HW.out.1 HW.out.2 y0 y1 HNE (Lib.hid HST.out.hm) p0 (by omega)))).mono ?_
      rw [HST.out.back]
      rintro e w5 ⟨A5, n5, c5, rfl, hs5, hb5, hf5⟩
      have hz5 := hb5.size
      simp at hz5
      have hblk5 : w5.heap[w2.heap.size]? = some (.cells #[.int .u64 place, .int .i32 v] 33 (0, 0)) := (hb5.block _ (by simp; omega)).trans ((Below.heap_alloc wr _ _ hg).trans HK.out)
      have k1 : w5.cell? ⟨w2.heap.size, 0, none⟩ = some (.int .u64 place) := cell_of_row w5 _ 0 _ _ _ hblk5
      have k2 : w5.cell? ⟨w2.heap.size, 1, none⟩ = some (.int .i32 v) := cell_of_row w5 _ 1 _ _ _ hblk5
      have k3 : w5.frozen? ⟨w2.heap.size, 0, none⟩ = false := by simp [World.frozen?, hblk5]
      have k4 : w5.frozen? ⟨w2.heap.size, 1, none⟩ = false := by simp [World.frozen?, hblk5]
      have r0 : w5.cell? ⟨wr.heap.size, 0, none⟩ = some (.int .i32 x) := by rw [hb5.cell (by simp)]; simp [go_sem]
      have r2 : w5.cell? ⟨wr.heap.size, 2, none⟩ = some (.int .u32 (place + m)) := by rw [hb5.cell (by simp)]; simp [go_sem]
      have hneg : wr.heap.size ≠ w2.heap.size := by omega
      have hn5 : 1 ≤ n5 := by have := hs5.len; simp [tableB] at this; omega
      have e5 : ((n5 : Int) == 0) = false := by simp; omega
      have HS5 := Lib.hid ((hs5.set_fresh (p := ⟨w2.heap.size, 0, none⟩) hf5 (by simp; omega) (.int .u64 (place + m))).set_fresh (p := ⟨w2.heap.size, 1, none⟩) hf5 (by simp; omega) (.int .i32 x))
      have HB5 := Lib.hid (show Below w.heap.size w ((w5.setCell ⟨w2.heap.size, 0, none⟩ (.int .u64 (place + m))).setCell ⟨w2.heap.size, 1, none⟩ (.int .i32 x)) from ((((HB.out.alloc hbs _).trans (hb5.mono (by simp; omega)))).setCell (by show _ ≤ w2.heap.size; omega) _).setCell (by show _ ≤ w2.heap.size; omega) _)
      have HO5 := Lib.hid (((((HO.out.alloc (.cells #[.int .i32 x, .int .u32 place, .int .u32 (place + m)] 46)).below hb5).set (a := ⟨w2.heap.size, 0, none⟩) (by simp) (.int .u64 (place + m))).set (a := ⟨w2.heap.size, 1, none⟩) (by simp) (.int .i32 x)))
      have HK5 := Lib.hid (show ((w5.setCell ⟨w2.heap.size, 0, none⟩ (.int .u64 (place + m))).setCell ⟨w2.heap.size, 1, none⟩ (.int .i32 x)).heap[w2.heap.size]? = some (.cells #[.int .u64 (place + m), .int .i32 x] 33 (0, 0)) by simp [World.setCell, Array.getElem?_modify, hblk5])
      have HZ5 := Lib.hid hz5
      clear hs5 hb5 hf5 hblk5 kp kv
      go_wp2
      go_roundw
      case rel => exact ⟨k + 1, x, place + m, A5, n5, c5, by go_num, by omega, HST.out.next, rfl, by have h := HS5.out; simpa [World.setCell] using h, HK5.out, HO5.out, by have := HZ5.out; simp [World.setCell]; omega, HB5.out⟩
      case measure => simp [intOf]; omega
    · have hdz : ps.drop k = [] := List.drop_eq_nil_of_le (by have := hs.out.len; omega)
      have HSx := Lib.hid (show Sl wr wr.heap.size Ar nr cr [0] by have h := HSl.out; rw [hdz] at h; exact h)
      clear hdz
      go_wp2_with fail
      refine (istepF_of s place v place v false false Ar nr cr wr.heap.size _ [] wr HSx (Nat.le_refl _) (Lib.hid (by simp)) (Lib.hid (by simp)) (Lib.hid (fun A n c B w hs hB => zstep_end s place v A n c B [] w (Lib.hid hs) hB))).mono ?_
      rintro e w5 ⟨A5, n5, c5, rfl, hs5, hb5, hf5⟩
      have HB5 := Lib.hid (HB.out.trans (hb5.mono hbs))
      have hz5 := hb5.size
      clear hs5 hb5 hf5
      go_wp2
      go_ret
      exact ⟨rfl, HB5.out.alloc (by omega) _⟩
theorem fnSteps_walk (A0 : Option Addr) (n0 c0 : Nat) (l0 : List (Int × Int)) (a1 : Int) (w1 : (Lit.int .u32 a1).wf = true) (w : World) (s0 : SlP w w.heap.size A0 n0 c0 l0) :
    Calls Try.prog 9 #[.slice A0 n0 c0, .int .u32 a1] w (Lawful w) := by
  obtain ⟨q0, q1⟩ := bounds_u32 w1
  have hm := s0.mx
  have hc := s0.cap
  by_cases hn : n0 ≤ 2147483647
  · exact fnSteps_main A0 n0 c0 l0 a1 w (Lib.hid s0) hn q0 (by omega)
  · clear s0 w1
    go_enter Try.func9, Try.ntmps9
    go_wp2_with fail
    go_ret
    exact ⟨rfl, Below.refl _ _⟩
end Go.Proofs.Ytmnjcngjhpdmeaa
