/- The contract of the thin function ValueAt, and the walk of the law FnValueBehind. -/
import Derived.Test.YtmnjcngjhpdmeaaVal
import Derived.Test.YtmnjcngjhpdmeaaTab
import Derived.Test.YtmnjcngjhpdmeaaLaw
namespace Go.Proofs.Ytmnjcngjhpdmeaa
open Go.RowKit
set_option linter.unusedVariables false

theorem zvalue_any (n c : Nat) (A : Option Addr) (s t entry tg : Int) (ps : List (Int × Int)) (w : World) (hs : Hid (Sl w w.heap.size A n c (tableB (-1) ps)))
    (HR : Hid (RightP ps s)) (HOk : Hid (∀ p ∈ ps, PieceOk p)) (s0 : 0 ≤ s) (s1 : s < 4294967296) (e0 : 0 ≤ entry) (e1 : entry < 4611686018427387904) (t0 : 0 ≤ t) (t1 : t < 4611686018427387904) (HT : Hid (tg = entry + t)) :
    Calls Try.prog 25 #[.slice A n c, .int .u32 s, .int .u32 0, .int .u64 entry, .int .u64 tg] w (VPost w (valAt s t ps)) := by
  have hl := hs.out.len
  have h1 : 1 ≤ n := by simp [tableB] at hl; omega
  have hcap := hs.out.cap
  have hmx := hs.out.mx
  have HS := Lib.hid ((hs.out.alloc (Nat.le_refl _) (.cells #[.int .u32 s, .slice A n c] 59)).more (Nat.le_succ _))
  have g1 : (w.alloc (.cells #[.int .u32 s, .slice A n c] 59)).cell? ⟨w.heap.size, 0, none⟩ = some (.int .u32 s) := cell_of_row _ _ _ _ _ (0, 0) (heap_alloc_new w _)
  have g2 : (w.alloc (.cells #[.int .u32 s, .slice A n c] 59)).cell? ⟨w.heap.size, 1, none⟩ = some (.slice A n c) := cell_of_row _ _ _ _ _ (0, 0) (heap_alloc_new w _)
  have H := Lib.hid (pcvalue_any w.heap.size n c A s t entry tg ps _ (by simp) g1 g2 (Lib.hid (by simpa using HS.out)) (by omega) hmx hcap HR HOk s0 s1 e0 e1 t0 t1 HT)
  clear hl g1 g2
  go_enter Try.func25, Try.ntmps25
  go_wp2_with fail
  refine H.out.mono ?_
  rintro e w1 ⟨rfl, hb⟩
  have HB := Lib.hid (((Below.refl w.heap.size w).alloc (Nat.le_refl _) _).trans (hb.mono (by simp)))
  generalize valAt s t ps = r at *
  clear H hb
  go_wp2
  go_ret
  exact ⟨rfl, HB.out⟩
theorem valueAt_any (n c B : Nat) (A : Option Addr) (s t entry tg : Int) (ps : List (Int × Int)) (w : World) (hs : Hid (Sl w B A n c (tableB (-1) ps))) (hB : B ≤ w.heap.size) (hlen : Hid (ps.length ≤ 2147483647))
    (HR : Hid (RightP ps s)) (HOk : Hid (∀ p ∈ ps, PieceOk p)) (s0 : 0 ≤ s) (s1 : s < 4294967296) (e0 : 0 ≤ entry) (e1 : entry < 4611686018427387904) (t0 : 0 ≤ t) (t1 : t < 4611686018427387904) (HT : Hid (tg = entry + t)) :
    Calls Try.prog 21 #[.slice A n c, .int .u32 s, .int .u32 0, .int .u64 entry, .int .u64 tg] w (VPost w (valAt s t ps)) := by
  have HL := Lib.hid (show (tableB (-1) ps).length ≤ 70368744177664 by have := tableB_len (-1) ps HOk.out; have := hlen.out; omega)
  go_enter Try.func21, Try.ntmps21
  go_wp2_with fail
  refine (clone8_any A n c B _ w hs.out hB HL.out).mono ?_
  rintro e w1 ⟨A1, n1, c1, rfl, hs1, hb1⟩
  have HS1 := Lib.hid hs1
  have HB1 := Lib.hid hb1
  clear hs1 hb1
  go_wp2_with fail
  refine (zvalue_any n1 c1 A1 s t entry tg ps w1 HS1 HR HOk s0 s1 e0 e1 t0 t1 HT).mono ?_
  rintro e w2 ⟨rfl, hb⟩
  have HB2 := Lib.hid (HB1.out.trans (hb.mono HB1.out.size))
  generalize valAt s t ps = r at *
  clear hb
  go_wp2
  go_ret
  exact ⟨rfl, HB2.out⟩

theorem fnValueBehind_main (A : Option Addr) (n c : Nat) (ps : List (Int × Int)) (s entry t : Int) (w : World) (hs : Hid (SlP w w.heap.size A n c ps)) (hn : n ≤ 2147483647) (s0 : 0 ≤ s) (s1 : s < 4294967296) (e0 : 0 ≤ entry) (e1 : entry < 4611686018427387904) (t0 : 0 ≤ t) (t1 : t < 4611686018427387904) :
    Calls Try.prog 10 #[.slice A n c, .int .u32 s, .int .u64 entry, .int .u64 t] w (Lawful w) := by
  go_enter Try.func10, Try.ntmps10
  go_wp2_with fail
  refine (right_any A n c ps s w hs s0 s1).mono ?_
  rintro e w1 ⟨r, rfl, hr, hb1⟩
  have HB1 := Lib.hid hb1
  cases r
  · clear hr hb1
    go_wp2
    go_ret
    exact ⟨rfl, HB1.out⟩
  · have hr1 := hr rfl
    have HR := Lib.hid hr1
    have hs2 : 1 ≤ s := by cases ps with | nil => exact absurd hr1 id | cons p q => exact hr1.2.2.1
    have HS1 := Lib.hid (hs.out.below hb1)
    have hz1 := hb1.size
    have hs1' : SlP w1 w1.heap.size A n c ps := HS1.out.keep hz1 (fun _ _ _ => rfl)
    have HS1' := Lib.hid hs1'
    have htd : 0 ≤ t / s := Int.ediv_nonneg t0 s0
    have htd2 : t / s ≤ t := Int.ediv_le_self _ t0
    have HV := Lib.hid (valAt_atL s hs2 t ps)
    clear hr hr1 hb1 hs1'
    go_wp2_with fail
    refine (at_any A n c ps _ w1 HS1' htd (by omega)).mono ?_
    rintro e w2 ⟨rfl, hb2⟩
    have hz2 := hb2.size
    have HB2 := Lib.hid (HB1.out.trans (hb2.mono hz1))
    rw [← HV.out]
    cases hb : (atL (t / s) ps).2
    · have hx := atL_none _ _ hb
      rw [← HV.out] at hx
      have HX := Lib.hid hx
      have HS2 := Lib.hid (show SlP w2 w2.heap.size A n c ps from (HS1'.out.below hb2).keep hz2 (fun _ _ _ => rfl))
      clear hb2 hx hb
      go_wp2_with fail
      refine (table_any A n c ps w2 HS2 hn).mono ?_
      rintro e w3 ⟨v3, rfl, hown3, hb3⟩
      obtain ⟨A3, n3, c3, rfl, hs3⟩ := hown3.sl
      have hz3 := hb3.size
      have HS3 := Lib.hid hs3
      have HB3 := Lib.hid (HB2.out.trans (hb3.mono (by omega)))
      clear hown3 hs3 hb3
      go_wp2_with fail
      refine (valueAt_any n3 c3 w3.heap.size A3 s t entry _ ps w3 HS3 (Nat.le_refl _) (Lib.hid (by have := hs.out.len; omega)) HR (Lib.hid hs.out.ok) s0 s1 e0 e1 t0 t1 (Lib.hid rfl)).mono ?_
      rintro e w4 ⟨rfl, hb4⟩
      have HB4 := Lib.hid (HB3.out.trans (hb4.mono (by omega)))
      rw [HX.out]
      clear hb4
      go_wp2
      go_ret
      exact ⟨rfl, HB4.out⟩
    · clear hb2 hb
      generalize valAt s t ps = r at *
      go_wp2
      go_ret
      exact ⟨rfl, HB2.out⟩
theorem fnValueBehind_walk (A0 : Option Addr) (n0 c0 : Nat) (l0 : List (Int × Int)) (a1 : Int) (w1 : (Lit.int .u32 a1).wf = true) (a2 : Int) (w2 : (Lit.int .u64 a2).wf = true) (a3 : Int) (w3 : (Lit.int .u64 a3).wf = true) (w : World) (s0 : SlP w w.heap.size A0 n0 c0 l0) :
    Calls Try.prog 10 #[.slice A0 n0 c0, .int .u32 a1, .int .u64 a2, .int .u64 a3] w (Lawful w) := by
  obtain ⟨q0, q1⟩ := bounds_u32 w1
  obtain ⟨e0, e1⟩ := bounds_u64 w2
  obtain ⟨t0, t1⟩ := bounds_u64 w3
  have hm := s0.mx
  have hc := s0.cap
  have HS := Lib.hid s0
  clear w1 w2 w3 s0
  by_cases hn : n0 ≤ 2147483647
  · by_cases h1 : a2 < 4611686018427387904
    · by_cases h2 : a3 < 4611686018427387904
      · exact fnValueBehind_main A0 n0 c0 l0 a1 a2 a3 w HS hn q0 (by omega) e0 h1 t0 h2
      · go_enter Try.func10, Try.ntmps10
        go_wp2_with fail
        refine (right_any A0 n0 c0 l0 a1 w HS q0 (by omega)).mono ?_
        rintro e w1 ⟨r, rfl, hr, hb1⟩
        have HB1 := Lib.hid hb1
        clear hr hb1
        cases r <;> (go_wp2; go_ret; exact ⟨rfl, HB1.out⟩)
    · go_enter Try.func10, Try.ntmps10
      go_wp2_with fail
      refine (right_any A0 n0 c0 l0 a1 w HS q0 (by omega)).mono ?_
      rintro e w1 ⟨r, rfl, hr, hb1⟩
      have HB1 := Lib.hid hb1
      clear hr hb1
      cases r <;> (go_wp2; go_ret; exact ⟨rfl, HB1.out⟩)
  · go_enter Try.func10, Try.ntmps10
    go_wp2_with fail
    go_ret
    exact ⟨rfl, Below.refl _ _⟩
end Go.Proofs.Ytmnjcngjhpdmeaa
