/- The walk of the law FnReadScaled. -/
import Derived.Test.YtgpmnpimdbejnaaReadLaws
import Derived.Test.YtgpmnpimdbejnaaPlR
namespace Go.Proofs.Ytgpmnpimdbejnaa
open Go.RowKit
set_option linter.unusedVariables false

theorem rngK_get {s : Int} {ps : List (Int × Int)} {k : Nat} {x a b : Int} (h : RngK s ps k x a b) (hk : k < (rangesL s 0 ps).length) : (rangesL s 0 ps)[k] = (x, a, b) := by
  have := h.rng
  rw [List.getElem?_eq_getElem hk] at this
  injection this

def RscRel (w : World) (n : Nat) (vi : Value) (wr : World) : Prop := ∃ k : Nat, vi = .int .i64 k ∧ k ≤ n ∧ Below w.heap.size w wr

theorem fnReadScaled_main (A : Option Addr) (n c : Nat) (ps : List (Int × Int)) (s : Int) (w : World) (hs : Hid (SlP w w.heap.size A n c ps)) (hn : n ≤ 2147483647) (s0 : 0 ≤ s) (s1 : s < 4294967296) :
    Calls Try.prog 10 #[.slice A n c, .int .u32 s] w (Lawful w) := by
  go_enter Try.func10, Try.ntmps10
  go_wp2_with fail
  refine (right_any A n c ps s w hs s0 s1).mono ?_
  rintro e w1 ⟨r, rfl, hr, hb1⟩
  have HB1 := Lib.hid hb1
  cases r
  · clear hr hb1
    go_wp2
    go_ret
    exact ⟨rfl, HB1.out⟩
  have HR := Lib.hid (hr rfl)
  have HR1 := Lib.hid (right_one (hr rfl) hs.out.ok)
  have hz1 := hb1.size
  have HS1 := Lib.hid (show SlP w1 w1.heap.size A n c ps from (hs.out.below hb1).keep hz1 (fun _ _ _ => rfl))
  clear hr hb1
  go_wp2_with fail
  refine (table_any A n c ps w1 HS1 hn).mono ?_
  rintro e w2 ⟨v2, rfl, hown2, hb2⟩
  obtain ⟨A2, n2, c2, rfl, hs2⟩ := hown2.sl
  have hz2 := hb2.size
  have HS2 := Lib.hid hs2
  have HB2 := Lib.hid (HB1.out.trans (hb2.mono hz1))
  clear hown2 hs2 hb2
  go_wp2_with fail
  refine (read_table A2 n2 c2 w2.heap.size 1 ps w2 HR1.out hs.out.ok HS2.out (Nat.le_refl _) (by have := hs.out.len; omega)).mono ?_
  rintro e w3 ⟨v3, rfl, hown3, hb3⟩
  have hz3 := hb3.size
  have HO3 := Lib.hid hown3
  have HB3 := Lib.hid (HB2.out.trans (hb3.mono (by omega)))
  have HS3 := Lib.hid (show SlP w3 w3.heap.size A n c ps from (hs.out.below HB3.out).keep HB3.out.size (fun _ _ _ => rfl))
  clear hown3 hb3
  go_wp2_with fail
  refine (table_any A n c ps w3 HS3 hn).mono ?_
  rintro e w4 ⟨v4, rfl, hown4, hb4⟩
  obtain ⟨A4, n4, c4, rfl, hs4⟩ := hown4.sl
  have hz4 := hb4.size
  have HO4 := Lib.hid (HO3.out.below hb4)
  have HS4 := Lib.hid hs4
  have HB4 := Lib.hid (HB3.out.trans (hb4.mono (by have := HB3.out.size; omega)))
  clear hown4 hs4 hb4
  go_wp2_with fail
  refine (read_table A4 n4 c4 w4.heap.size s ps w4 HR.out hs.out.ok HS4.out (Nat.le_refl _) (by have := hs.out.len; omega)).mono ?_
  rintro e w5 ⟨v5, rfl, hown5, hb5⟩
  have hz5 := hb5.size
  obtain ⟨A3, n3, c3, rfl, hs3⟩ := (HO4.out.below hb5).sl
  obtain ⟨A5, n5, c5, rfl, hs5⟩ := hown5.sl
  have hn3 : n3 = n := by rw [← hs3.len, rangesL_len]; exact hs.out.len
  have hn5 : n5 = n := by rw [← hs5.len, rangesL_len]; exact hs.out.len
  subst hn3
  subst hn5
  have hpos : 0 < n5 := by have h := HR.out.scale.2.2; have h2 := hs.out.len; cases ps with | nil => exact absurd rfl h | cons p q => simp at h2; omega
  obtain ⟨b, o, rfl, hbl, hcell⟩ := hs3.at_ hpos
  obtain ⟨b', o', rfl, hbl', hcell'⟩ := hs5.at_ hpos
  have HC := Lib.hid hcell
  have HC' := Lib.hid hcell'
  have HB5 := Lib.hid (HB4.out.trans (hb5.mono (by have := HB4.out.size; omega)))
  have hz : ((n5 : Int) == 0) = false := by simp; omega
  clear hown5 hs3 hs5 hb5 hcell hcell'
  go_wp2
  go_loopw [35] (fun vi wr => RscRel w5 n5 vi wr) (fun vi _ => n5 - (intOf vi).toNat)
  case atStart => exact ⟨0, rfl, Nat.zero_le _, Below.refl _ _⟩
  case round =>
    obtain ⟨k, rfl, hk, hb⟩ := hrel
    have HB := Lib.hid hb
    have hbs := hb.size
    clear hb
    by_cases hlt : k < n5
    · have hkl : k < ps.length := by have := hs.out.len; omega
      have hr1 := rngK HR1.out hs.out.ok hkl
      have hrs := rngK HR.out hs.out.ok hkl
      obtain ⟨c1, c2', c3'⟩ := HC.out k (by rw [rangesL_len]; exact hkl)
      obtain ⟨d1, d2, d3⟩ := HC'.out k (by rw [rangesL_len]; exact hkl)
      rw [rngK_get hr1] at c1 c2' c3'
      rw [rngK_get hrs] at d1 d2 d3
      simp only [Int.mul_one] at c1 c2' c3'
      simp only at d1 d2 d3
      have ea : sumL (ps.take k) * s % 4294967296 = sumL (ps.take k) * s := by have := hrs.a0; have := hrs.ab; have := hrs.b1; omega
      have eb : sumL (ps.take (k + 1)) * s % 4294967296 = sumL (ps.take (k + 1)) * s := by have := hrs.a0; have := hrs.ab; have := hrs.b1; omega
      generalize sumL (ps.take (k + 1)) = en at *
      generalize sumL (ps.take k) = st at *
      rw [← HB.out.cell (p := ⟨b, o + k * 3, none⟩) hbl] at c1
      rw [← HB.out.cell (p := ⟨b, o + k * 3 + 1, none⟩) hbl] at c2'
      rw [← HB.out.cell (p := ⟨b, o + k * 3 + 1 + 1, none⟩) hbl] at c3'
      rw [← HB.out.cell (p := ⟨b', o' + k * 3, none⟩) hbl'] at d1
      rw [← HB.out.cell (p := ⟨b', o' + k * 3 + 1, none⟩) hbl'] at d2
      rw [← HB.out.cell (p := ⟨b', o' + k * 3 + 1 + 1, none⟩) hbl'] at d3
      generalize (ps[k]).1 = x at *
      have z1 : b' < wr.heap.size := by omega
      have i0 : (k : Int) < (n5 : Int) := by omega
      obtain ⟨ma, hma⟩ : ∃ m, st * s = m := ⟨_, rfl⟩
      obtain ⟨mb, hmb⟩ : ∃ m, en * s = m := ⟨_, rfl⟩
      rw [hma] at ea
      rw [hmb] at eb
      rw [hma] at d2
      rw [hmb] at d3
      have ea' : st * s % 4294967296 = ma := by rw [hma, ea]
      have eb' : en * s % 4294967296 = mb := by rw [hmb, eb]
      clear hr1 hrs ea eb hma hmb hkl
      go_wp2_with fail
      go_quiet (fail)
      go_wp2
      go_roundw
      case rel => exact ⟨k + 1, by go_num, by omega, below_drewN (HB.out.alloc hbs _) _⟩
      case measure => simp [intOf]; omega
    · go_wp2
      go_ret
      exact ⟨rfl, HB5.out.trans (HB.out.mono (by have := HB5.out.size; omega))⟩
theorem fnReadScaled_walk (A0 : Option Addr) (n0 c0 : Nat) (l0 : List (Int × Int)) (a1 : Int) (w1 : (Lit.int .u32 a1).wf = true) (w : World) (s0 : SlP w w.heap.size A0 n0 c0 l0) :
    Calls Try.prog 10 #[.slice A0 n0 c0, .int .u32 a1] w (Lawful w) := by
  obtain ⟨q0, q1⟩ := bounds_u32 w1
  have hm := s0.mx
  have hc := s0.cap
  by_cases hn : n0 ≤ 2147483647
  · exact fnReadScaled_main A0 n0 c0 l0 a1 w (Lib.hid s0) hn q0 (by omega)
  · clear s0 w1
    go_enter Try.func10, Try.ntmps10
    go_wp2_with fail
    go_ret
    exact ⟨rfl, Below.refl _ _⟩
end Go.Proofs.Ytgpmnpimdbejnaa
