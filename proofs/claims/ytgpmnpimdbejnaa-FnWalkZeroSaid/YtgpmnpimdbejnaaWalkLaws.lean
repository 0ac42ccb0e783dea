/- The walks of the laws FnWalk, FnWalkPart, FnWalkZero. -/
import Derived.Test.YtgpmnpimdbejnaaIWalk
import Derived.Test.YtgpmnpimdbejnaaSameR
import Derived.Test.YtgpmnpimdbejnaaLaw
namespace Go.Proofs.Ytgpmnpimdbejnaa
open Go.RowKit
set_option linter.unusedVariables false

theorem tableB_left (v : Int) (ps : List (Int × Int)) : tableB v ps = leftB v ps [] := rfl
theorem walk_table (A : Option Addr) (n c B mm : Nat) (s : Int) (ps : List (Int × Int)) (w : World) (HR : RightP ps s) (HOk : ∀ p ∈ ps, PieceOk p) (hs : Sl w B A n c (tableB (-1) ps)) (hB : B ≤ w.heap.size) (hpl : ps.length ≤ 2147483647) (hmm : mm ≤ 9223372036854775807) (z : Int) (hz : z = (mm : Int)) :
    Calls Try.prog 13 #[.slice A n c, .int .u32 s, .int .i64 z] w (WalkPost w (rangesL s 0 (ps.take mm)) (decide (ps.length ≤ mm))) := by
  subst hz
  rw [tableB_left] at hs
  exact walk_any A n c B mm s ps [] w (Lib.hid HR) (Lib.hid HOk) (Lib.hid hs) hB (Lib.hid (by rw [← tableB_left]; have := tableB_len (-1) ps HOk; omega)) hpl hmm

theorem fnWalk_main (A : Option Addr) (n c : Nat) (ps : List (Int × Int)) (s : Int) (w : World) (hs : Hid (SlP w w.heap.size A n c ps)) (hn : n ≤ 2147483647) (s0 : 0 ≤ s) (s1 : s < 4294967296) :
    Calls Try.prog 3 #[.slice A n c, .int .u32 s] w (Lawful w) := by
  go_enter Try.func3, Try.ntmps3
  go_wp2_with fail
  refine (right_any A n c ps s w hs s0 s1).mono ?_
  rintro e w1 ⟨r, rfl, hr, hb1⟩
  have HB1 := Lib.hid hb1
  cases r
  · clear hr hb1
    go_wp2
    go_ret
    exact ⟨rfl, HB1.out⟩
  have HR := Lib.hid (hr rfl)
  have hz1 := hb1.size
  have HS1 := Lib.hid (show SlP w1 w1.heap.size A n c ps from (hs.out.below hb1).keep hz1 (fun _ _ _ => rfl))
  clear hr hb1
  go_wp2_with fail
  refine (table_any A n c ps w1 HS1 hn).mono ?_
  rintro e w2 ⟨v2, rfl, hown2, hb2⟩
  obtain ⟨A2, n2, c2, rfl, hs2⟩ := hown2.sl
  have hz2 := hb2.size
  have HS2 := Lib.hid hs2
  have HB2 := Lib.hid (HB1.out.trans (hb2.mono hz1))
  have H := walk_table A2 n2 c2 w2.heap.size (n + 1) s ps w2 HR.out hs.out.ok hs2 (Nat.le_refl _) (by have := hs.out.len; omega) (by omega) ((n : Int) + 1) (by omega)
  rw [List.take_of_length_le (by have := hs.out.len; omega), show decide (ps.length ≤ n + 1) = true by have := hs.out.len; simp; omega] at H
  have HH := Lib.hid H
  have HP2 := Lib.hid (show SlP w2 w2.heap.size A n c ps from (HS1.out.below hb2).keep hz2 (fun _ _ _ => rfl))
  clear hown2 hs2 hb2 H
  go_wp2_with fail
  refine HH.out.mono ?_
  rintro e w3 ⟨v3, rfl, hown3, hb3⟩
  have hz3 := hb3.size
  have HO3 := Lib.hid hown3
  have HB3 := Lib.hid (HB2.out.trans (hb3.mono (by omega)))
  have HP3 := Lib.hid (show SlP w3 w3.heap.size A n c ps from (HP2.out.below hb3).keep hz3 (fun _ _ _ => rfl))
  clear hown3 hb3 HH
  go_wp2_with fail
  refine (ranges_any A n c ps s w3 HP3 hn HR).mono ?_
  rintro e w4 ⟨v4, rfl, hown4, hb4⟩
  have hz4 := hb4.size
  obtain ⟨A4, n4, c4, rfl, hs4⟩ := hown4.sl
  obtain ⟨A3, n3, c3, rfl, hs3⟩ := (HO3.out.below hb4).sl
  have HS3 := Lib.hid hs3
  have HS4 := Lib.hid hs4
  have HB4 := Lib.hid (HB3.out.trans (hb4.mono (by omega)))
  clear hown4 hs4 hs3 hb4
  go_wp2_with fail
  refine (sameR_any A3 A4 n3 n4 c3 c4 _ w4 HS3.out HS4.out).mono ?_
  rintro e w5 ⟨rfl, hb5⟩
  have HB5 := Lib.hid (HB4.out.trans (hb5.mono (by omega)))
  clear hb5
  go_wp2
  go_ret
  exact ⟨rfl, HB5.out⟩
theorem fnWalk_walk (A0 : Option Addr) (n0 c0 : Nat) (l0 : List (Int × Int)) (a1 : Int) (w1 : (Lit.int .u32 a1).wf = true) (w : World) (s0 : SlP w w.heap.size A0 n0 c0 l0) :
    Calls Try.prog 3 #[.slice A0 n0 c0, .int .u32 a1] w (Lawful w) := by
  obtain ⟨q0, q1⟩ := bounds_u32 w1
  have hm := s0.mx
  have hc := s0.cap
  by_cases hn : n0 ≤ 2147483647
  · exact fnWalk_main A0 n0 c0 l0 a1 w (Lib.hid s0) hn q0 (by omega)
  · clear s0 w1
    go_enter Try.func3, Try.ntmps3
    go_wp2_with fail
    go_ret
    exact ⟨rfl, Below.refl _ _⟩

theorem SlR.front {w : World} {B n c k : Nat} {A : Option Addr} {rs : List (Int × Int × Int)} (h : SlR w B A n c rs) (hk : k ≤ n) : SlR w B A k c (rs.take k) := by
  refine ⟨by rw [List.length_take]; have := h.len; omega, Nat.le_trans hk h.cap, h.mx, ?_⟩
  rcases h.rd with e | ⟨b, o, e, hb, hc⟩
  · left
    have h1 := rcells_len rs
    rw [e] at h1
    have : rs = [] := List.eq_nil_of_length_eq_zero (by simp at h1; omega)
    rw [this]; simp [rcells]
  · refine .inr ⟨b, o, e, hb, fun j u hu => hc j u ?_⟩
    have h2 : rcells rs = rcells (rs.take k) ++ rcells (rs.drop k) := by rw [← rcells_append, List.take_append_drop]
    rw [h2, List.getElem?_append_left (by
      rcases Nat.lt_or_ge j (rcells (rs.take k)).length with h | h
      · exact h
      · rw [List.getElem?_eq_none h] at hu; cases hu)]
    exact hu
theorem rangesL_take (s a : Int) (ps : List (Int × Int)) (k : Nat) : rangesL s a (ps.take k) = (rangesL s a ps).take k := by
  induction ps generalizing a k with
  | nil => simp [rangesL]
  | cons p r ih =>
    cases k with
    | zero => rfl
    | succ k => simp [rangesL, ih]

theorem fnWalkPart_main (A : Option Addr) (n c m : Nat) (ps : List (Int × Int)) (s : Int) (w : World) (hs : Hid (SlP w w.heap.size A n c ps)) (hn : n ≤ 2147483647) (s0 : 0 ≤ s) (s1 : s < 4294967296) (m1 : 1 ≤ m) (m2 : m < n) :
    Calls Try.prog 4 #[.slice A n c, .int .u32 s, .int .i64 m] w (Lawful w) := by
  go_enter Try.func4, Try.ntmps4
  go_wp2_with fail
  refine (right_any A n c ps s w hs s0 s1).mono ?_
  rintro e w1 ⟨r, rfl, hr, hb1⟩
  have HB1 := Lib.hid hb1
  cases r
  · clear hr hb1
    go_wp2
    go_ret
    exact ⟨rfl, HB1.out⟩
  have HR := Lib.hid (hr rfl)
  have hz1 := hb1.size
  have HS1 := Lib.hid (show SlP w1 w1.heap.size A n c ps from (hs.out.below hb1).keep hz1 (fun _ _ _ => rfl))
  clear hr hb1
  go_wp2_with fail
  refine (table_any A n c ps w1 HS1 hn).mono ?_
  rintro e w2 ⟨v2, rfl, hown2, hb2⟩
  obtain ⟨A2, n2, c2, rfl, hs2⟩ := hown2.sl
  have hz2 := hb2.size
  have HB2 := Lib.hid (HB1.out.trans (hb2.mono hz1))
  have H := walk_table A2 n2 c2 w2.heap.size m s ps w2 HR.out hs.out.ok hs2 (Nat.le_refl _) (by have := hs.out.len; omega) (by omega) (m : Int) rfl
  rw [show decide (ps.length ≤ m) = false by have := hs.out.len; simp; omega] at H
  have HH := Lib.hid H
  have HP2 := Lib.hid (show SlP w2 w2.heap.size A n c ps from (HS1.out.below hb2).keep hz2 (fun _ _ _ => rfl))
  clear hown2 hs2 hb2 H
  go_wp2_with fail
  refine HH.out.mono ?_
  rintro e w3 ⟨v3, rfl, hown3, hb3⟩
  have hz3 := hb3.size
  have HO3 := Lib.hid hown3
  have HB3 := Lib.hid (HB2.out.trans (hb3.mono (by omega)))
  have HP3 := Lib.hid (show SlP w3 w3.heap.size A n c ps from (HP2.out.below hb3).keep hz3 (fun _ _ _ => rfl))
  clear hown3 hb3 HH
  go_wp2_with fail
  refine (ranges_any A n c ps s w3 HP3 hn HR).mono ?_
  rintro e w4 ⟨v4, rfl, hown4, hb4⟩
  have hz4 := hb4.size
  obtain ⟨A4, n4, c4, rfl, hs4⟩ := hown4.sl
  obtain ⟨A3, n3, c3, rfl, hs3⟩ := (HO3.out.below hb4).sl
  have hn4 : n4 = n := by rw [← hs4.len, rangesL_len]; exact hs.out.len
  have hc4 := hs4.cap
  obtain ⟨b4, o4, rfl, _, _⟩ := hs4.at_ (by omega)
  have HS3 := Lib.hid hs3
  have HS4 := Lib.hid (show SlR w4 w4.heap.size (some ⟨b4, o4, none⟩) m c4 (rangesL s 0 (ps.take m)) by rw [rangesL_take]; exact hs4.front (by omega))
  have HB4 := Lib.hid (HB3.out.trans (hb4.mono (by omega)))
  have hmc : (m : Int) ≤ (c4 : Int) := by omega
  have hc0 : ¬ c4 = 0 := by omega
  clear hown4 hs4 hs3 hb4 hn4
  go_wp2_with fail
  refine (sameR_any A3 (some ⟨b4, o4, none⟩) n3 m c3 c4 _ w4 HS3.out HS4.out).mono ?_
  rintro e w5 ⟨rfl, hb5⟩
  have HB5 := Lib.hid (HB4.out.trans (hb5.mono (by omega)))
  clear hb5
  go_wp2
  go_ret
  exact ⟨rfl, HB5.out⟩
theorem fnWalkPart_walk (A0 : Option Addr) (n0 c0 : Nat) (l0 : List (Int × Int)) (a1 : Int) (w1 : (Lit.int .u32 a1).wf = true) (a2 : Int) (w2 : (Lit.int .i64 a2).wf = true) (w : World) (s0 : SlP w w.heap.size A0 n0 c0 l0) :
    Calls Try.prog 4 #[.slice A0 n0 c0, .int .u32 a1, .int .i64 a2] w (Lawful w) := by
  obtain ⟨q0, q1⟩ := bounds_u32 w1
  obtain ⟨r0, r1⟩ := bounds_i64 w2
  have hm := s0.mx
  have hc := s0.cap
  have HS := Lib.hid s0
  clear s0 w1 w2
  by_cases hn : n0 ≤ 2147483647
  · by_cases h1 : a2 < 1
    · go_enter Try.func4, Try.ntmps4
      go_wp2_with fail
      refine (right_any A0 n0 c0 l0 a1 w HS q0 (by omega)).mono ?_
      rintro e w1 ⟨r, rfl, hr, hb1⟩
      have HB1 := Lib.hid hb1
      clear hr hb1
      cases r <;> (go_wp2; go_ret; exact ⟨rfl, HB1.out⟩)
    · by_cases h2 : a2 < n0
      · obtain ⟨m, rfl⟩ := Int.eq_ofNat_of_zero_le (show 0 ≤ a2 by omega)
        exact fnWalkPart_main A0 n0 c0 m l0 a1 w HS hn q0 (by omega) (by omega) (by omega)
      · go_enter Try.func4, Try.ntmps4
        go_wp2_with fail
        refine (right_any A0 n0 c0 l0 a1 w HS q0 (by omega)).mono ?_
        rintro e w1 ⟨r, rfl, hr, hb1⟩
        have HB1 := Lib.hid hb1
        clear hr hb1
        cases r <;> (go_wp2; go_ret; exact ⟨rfl, HB1.out⟩)
  · go_enter Try.func4, Try.ntmps4
    go_wp2_with fail
    go_ret
    exact ⟨rfl, Below.refl _ _⟩
end Go.Proofs.Ytgpmnpimdbejnaa
