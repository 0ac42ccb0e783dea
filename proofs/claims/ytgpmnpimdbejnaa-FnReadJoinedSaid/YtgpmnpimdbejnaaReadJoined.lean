/- The walk of the law FnReadJoined. -/
import Derived.Test.YtgpmnpimdbejnaaReadLaws
import Derived.Test.YtgpmnpimdbejnaaPlR
namespace Go.Proofs.Ytgpmnpimdbejnaa
open Go.RowKit
set_option linter.unusedVariables false

def RjRel (w : World) (n : Nat) (ps : List (Int × Int)) (va vi : Value) (wr : World) : Prop :=
  ∃ (k : Nat) (a : Int), vi = .int .i64 k ∧ k ≤ n ∧ va = .int .u32 a ∧ a = sumL (ps.take k) * 1 ∧ Below w.heap.size w wr

theorem fnReadJoined_main (A : Option Addr) (n c : Nat) (ps : List (Int × Int)) (w : World) (hs : Hid (SlP w w.heap.size A n c ps)) (hn : n ≤ 2147483647) :
    Calls Try.prog 8 #[.slice A n c] w (Lawful w) := by
  go_enter Try.func8, Try.ntmps8
  go_wp2_with fail
  refine (right_any A n c ps 1 w hs (by omega) (by omega)).mono ?_
  rintro e w1 ⟨r, rfl, hr, hb1⟩
  have HB1 := Lib.hid hb1
  cases r
  · clear hr hb1
    go_wp2
    go_ret
    exact ⟨rfl, HB1.out⟩
  have HR := Lib.hid (hr rfl)
  have hz1 := hb1.size
  have HS1 := Lib.hid (show SlP w1 w1.heap.size A n c ps from (hs.out.below hb1).keep hz1 (fun _ _ _ => rfl))
  clear hr hb1
  go_wp2_with fail
  refine (table_any A n c ps w1 HS1 hn).mono ?_
  rintro e w2 ⟨v2, rfl, hown2, hb2⟩
  obtain ⟨A2, n2, c2, rfl, hs2⟩ := hown2.sl
  have hz2 := hb2.size
  have HS2 := Lib.hid hs2
  have HB2 := Lib.hid (HB1.out.trans (hb2.mono hz1))
  clear hown2 hs2 hb2
  go_wp2_with fail
  refine (read_table A2 n2 c2 w2.heap.size 1 ps w2 HR.out hs.out.ok HS2.out (Nat.le_refl _) (by have := hs.out.len; omega)).mono ?_
  rintro e w3 ⟨v3, rfl, hown3, hb3⟩
  have hz3 := hb3.size
  obtain ⟨A3, n3, c3, rfl, hs3⟩ := hown3.sl
  have hn3 : n3 = n := by rw [← hs3.len, rangesL_len]; exact hs.out.len
  subst hn3
  have hpos : 0 < n3 := by have h := HR.out.scale.2.2; have h2 := hs.out.len; cases ps with | nil => exact absurd rfl h | cons p q => simp at h2; omega
  obtain ⟨b, o, rfl, hbl, hcell⟩ := hs3.at_ hpos
  have HC := Lib.hid hcell
  have HB3 := Lib.hid (HB2.out.trans (hb3.mono (by omega)))
  clear hown3 hs3 hb3 hcell
  go_wp2
  go_loopw [3, 18] (fun va vi wr => RjRel w3 n3 ps va vi wr) (fun _ vi _ => n3 - (intOf vi).toNat)
  case atStart => exact ⟨0, 0, rfl, Nat.zero_le _, rfl, by simp [sumL], Below.refl _ _⟩
  case round =>
    obtain ⟨k, a, rfl, hk, rfl, ha, hb⟩ := hrel
    have HB := Lib.hid hb
    have HA := Lib.hid ha
    have hbs := hb.size
    clear hb ha
    by_cases hlt : k < n3
    · have hkl : k < ps.length := by have := hs.out.len; omega
      have hrk := rngK HR.out hs.out.ok hkl
      obtain ⟨c1, c2', c3'⟩ := HC.out k (by rw [rangesL_len]; exact hkl)
      have hrg : (rangesL 1 0 ps)[k]'(by rw [rangesL_len]; exact hkl) = ((ps[k]).1, sumL (ps.take k) * 1, sumL (ps.take (k + 1)) * 1) := by
        have := hrk.rng
        rw [List.getElem?_eq_getElem (by rw [rangesL_len]; exact hkl)] at this
        injection this
      rw [hrg] at c1 c2' c3'
      simp only at c1 c2' c3'
      rw [← HA.out] at c2'
      have hab := hrk.ab
      rw [← HA.out] at hab
      generalize hE : sumL (ps.take (k + 1)) * 1 = en at *
      have HE := Lib.hid hE
      rw [← HB.out.cell (p := ⟨b, o + k * 3, none⟩) hbl] at c1
      rw [← HB.out.cell (p := ⟨b, o + k * 3 + 1, none⟩) hbl] at c2'
      rw [← HB.out.cell (p := ⟨b, o + k * 3 + 1 + 1, none⟩) hbl] at c3'
      generalize (ps[k]).1 = x at *
      clear hrg hrk hE hkl
      go_wp2
      go_roundw
      case rel => exact ⟨k + 1, en, by go_num, by omega, rfl, HE.out.symm, HB.out.alloc hbs _⟩
      case measure => simp [intOf]; omega
    · go_wp2
      go_ret
      exact ⟨rfl, HB3.out.trans (HB.out.mono (by have := HB3.out.size; omega))⟩
theorem fnReadJoined_walk (A0 : Option Addr) (n0 c0 : Nat) (l0 : List (Int × Int)) (w : World) (s0 : SlP w w.heap.size A0 n0 c0 l0) :
    Calls Try.prog 8 #[.slice A0 n0 c0] w (Lawful w) := by
  have hm := s0.mx
  have hc := s0.cap
  by_cases hn : n0 ≤ 2147483647
  · exact fnReadJoined_main A0 n0 c0 l0 w (Lib.hid s0) hn
  · clear s0
    go_enter Try.func8, Try.ntmps8
    go_wp2_with fail
    go_ret
    exact ⟨rfl, Below.refl _ _⟩
end Go.Proofs.Ytgpmnpimdbejnaa
