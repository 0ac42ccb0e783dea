/- The walk of the law FnWalkZero. -/
import Derived.Test.YtgpmnpimdbejnaaWalkLaws
namespace Go.Proofs.Ytgpmnpimdbejnaa
open Go.RowKit
set_option linter.unusedVariables false

theorem zero_left (long : Int) (tail : List UInt8) : [(0 : UInt8)] ++ Lib.uvarint long.toNat ++ [0] ++ tail = leftB (-1) [(-1, long)] tail := by
  have h0 : Lib.uvarint (Lib.zigzag (wrap32 (-1 - -1))) = [0] := by
    rw [show wrap32 (-1 - -1) = 0 by unfold wrap32; omega, show Lib.zigzag 0 = 0 from rfl, uv0']
  simp only [leftB, bodyB, encB, h0]
  simp
theorem fnWalkZero_main (A : Option Addr) (n c : Nat) (l : List UInt8) (long s m : Int) (w : World) (hs : Hid (Sl w w.heap.size A n c l)) (hn : n ≤ 2147483647) (l0 : 0 ≤ long) (l1 : long < 4294967296) (s0 : 0 ≤ s) (s1 : s < 4294967296) (e1 : (long == 0) = false) (e2 : (s == 0) = false)
    (hm : IntKind.u64.wrap (long * s) = m) (hm2 : long * s % 4294967296 = m) (HM : Hid (long * s = m)) (m0 : 0 ≤ m) (m1 : m < 4294967296) :
    Calls Try.prog 5 #[.slice A n c, .int .u32 long, .int .u32 s] w (Lawful w) := by
  have HL := Lib.hid (show l.length ≤ 2147483647 by have := hs.out.len; omega)
  have hlb := uv_len long.toNat (by omega)
  have HLb := Lib.hid hlb
  have hl1 : 1 ≤ long := by have : ¬ long = 0 := by simpa using e1
                            omega
  have hs1 : 1 ≤ s := by have : ¬ s = 0 := by simpa using e2
                         omega
  have HR := Lib.hid (show RightP [(-1, long)] s from ⟨hl1, trivial, hs1, by show (long + 0) * s < _; rw [Int.add_zero, HM.out]; exact m1⟩)
  have HOk := Lib.hid (show ∀ p ∈ [((-1 : Int), long)], PieceOk p from fun p hp => by simp at hp; subst hp; exact ⟨⟨by show (-2147483648 : Int) ≤ -1; omega, by show (-1 : Int) ≤ 2147483647; omega⟩, l0, l1⟩)
  have HO0 := Lib.hid (show Own8 (w.alloc (.cells #[.int .u8 0] 5)) w.heap.size (.slice (some ⟨w.heap.size, 0, none⟩) 1 1) [0] from
    ⟨rfl, .inr ⟨w.heap.size, 1, #[.int .u8 0], rfl, Nat.le_refl _, heap_alloc_new w _, Nat.le_refl _, by unfold maxLen; omega, rfl, rfl⟩⟩)
  have HLc := Lib.hid (show [(0 : UInt8)].length + (Lib.uvarint long.toNat).length ≤ 140737488355328 by simp; omega)
  have HLd := Lib.hid (show ([(0 : UInt8)] ++ Lib.uvarint long.toNat).length + [(0 : UInt8)].length ≤ 140737488355328 by rw [List.length_append]; simp; omega)
  have HLe := Lib.hid (show ([(0 : UInt8)] ++ Lib.uvarint long.toNat ++ [0]).length + l.length ≤ 140737488355328 by have := HL.out; rw [List.length_append, List.length_append]; simp; omega)
  have HLf := Lib.hid (show (leftB (-1) [(-1, long)] l).length ≤ 70368744177664 by rw [← zero_left]; have := HL.out; rw [List.length_append, List.length_append, List.length_append]; simp; omega)
  clear hlb
  go_enter Try.func5, Try.ntmps5
  go_wp2_with fail
  refine (uvarint_int long l0 l1 _).mono ?_
  rintro e w2 ⟨v2, rfl, hown2, hb2⟩
  have hz2 := hb2.size
  simp at hz2
  obtain ⟨A2, n2, c2, rfl, hs2⟩ := hown2.sl
  have HO2 := Lib.hid (HO0.out.below hb2)
  have HS2 := Lib.hid hs2
  have HB2 := Lib.hid (show Below w.heap.size w w2 from ((Below.refl _ _).alloc (Nat.le_refl _) _).trans (hb2.mono (by simp)))
  clear hown2 hs2 hb2 HO0
  go_wp2_with (first
    | (at_builtin; refine wpList_ap8 rfl (.tmp 27) _ rfl w.heap.size (.slice (some ⟨w.heap.size, 0, none⟩) 1 1) [0] rfl HO2.out w2.heap.size A2 n2 c2 _ rfl HS2.out HLc.out (by omega) ?_; intro v3 w3 hown3 hg3 _; have HO3 := Lib.hid hown3; have HB3 := Lib.hid (HB2.out.grown hg3 (by omega) (fun k hk => (HO2.out.lt k hk).1)); have hz3 := hg3.size; clear hown3 hg3)
    | (at_builtin; refine wpList_ap8 rfl (.tmp 32) _ rfl w.heap.size v3 _ rfl (HO3.out.alloc _) _ _ _ _ [0] rfl (sl_new _ _ _ rfl) HLd.out (by simp; omega) ?_; intro v4 w4 hown4 hg4 _; have HO4 := Lib.hid hown4; have HB4 := Lib.hid ((HB3.out.alloc (by omega) _).grown hg4 (by simp; omega) (fun k hk => (HO3.out.lt k hk).1)); have hz4 := hg4.size; clear hown4 hg4)
    | (at_builtin; refine wpList_ap8 rfl (.tmp 34) _ rfl w.heap.size v4 _ rfl HO4.out w.heap.size A n c l rfl (hs.out.below HB4.out) HLe.out (by simp at hz4; omega) ?_; intro v5 w5 hown5 hg5 _; have HB5 := Lib.hid (HB4.out.grown hg5 (by simp at hz4; omega) (fun k hk => (HO4.out.lt k hk).1)); obtain ⟨A5, n5, c5, rfl, hs5⟩ := hown5.sl; have HS5 := Lib.hid hs5; have hz5 := hg5.size; clear hown5 hg5 hs5))
  have HSx := Lib.hid (show Sl w5 w5.heap.size A5 n5 c5 (leftB (-1) [(-1, long)] l) by rw [← zero_left]; exact HS5.out)
  have H := walk_any A5 n5 c5 w5.heap.size 9 s [(-1, long)] l w5 HR HOk HSx (Nat.le_refl _) HLf (by simp) (by omega)
  rw [show ([((-1 : Int), long)].take 9) = [(-1, long)] from rfl, show decide ([((-1 : Int), long)].length ≤ 9) = true from rfl] at H
  have HH := Lib.hid H
  clear H
  simp at hz4
  refine HH.out.mono ?_
  rintro e w6 ⟨v6, rfl, hown6, hb6⟩
  obtain ⟨A6, n6, c6, rfl, hs6⟩ := hown6.sl
  have hz6 := hb6.size
  have HS6 := Lib.hid (show SlR w6 w6.heap.size A6 n6 c6 [(-1, 0, m)] by
    have h := hs6
    simp only [rangesL, Int.zero_add, HM.out] at h
    exact h)
  have HB6 := Lib.hid (HB5.out.trans (hb6.mono (by omega)))
  clear hown6 hs6 hb6 HH
  go_wp2_with fail
  refine (sameR_any A6 (some ⟨w6.heap.size, 0, none⟩) n6 1 c6 1 [(-1, 0, m)] _ (by exact (HS6.out.below ((Below.refl _ _).alloc (Nat.le_refl _) _)).keep (by simp) (fun _ _ _ => rfl)) ?_).mono ?_
  · refine ⟨rfl, Nat.le_refl _, by omega, .inr ⟨w6.heap.size, 0, rfl, by simp, fun j u hu => ?_⟩⟩
    rw [Nat.zero_add]
    have hblk := heap_alloc_new w6 (.cells #[.int .i32 (-1), .int .u32 0, .int .u32 m] 36)
    have := cell_of_row _ _ j _ _ _ hblk
    rw [this]
    simpa [rcells] using hu
  rintro e w7 ⟨rfl, hb7⟩
  have HB7 := Lib.hid ((HB6.out.alloc (by omega) (.cells #[.int .i32 (-1), .int .u32 0, .int .u32 m] 36)).trans (hb7.mono (by simp; omega)))
  clear hb7
  go_wp2
  go_ret
  exact ⟨rfl, HB7.out⟩
theorem fnWalkZero_walk (A0 : Option Addr) (n0 c0 : Nat) (l0 : List UInt8) (a1 : Int) (w1 : (Lit.int .u32 a1).wf = true) (a2 : Int) (w2 : (Lit.int .u32 a2).wf = true) (w : World) (s0 : Sl w w.heap.size A0 n0 c0 l0) :
    Calls Try.prog 5 #[.slice A0 n0 c0, .int .u32 a1, .int .u32 a2] w (Lawful w) := by
  obtain ⟨q0, q1⟩ := bounds_u32 w1
  obtain ⟨r0, r1⟩ := bounds_u32 w2
  have hmx := s0.mx
  have hcp := s0.cap
  obtain ⟨m, hm, hm2, m0, m1⟩ := mulU a1 a2 q0 (by omega) r0 (by omega)
  have HM := Lib.hid hm2
  have HS := Lib.hid s0
  clear w1 w2 s0 hm2
  by_cases hn : n0 ≤ 2147483647
  · by_cases h1 : a1 = 0
    · have e1 : (a1 == 0) = true := by simpa using h1
      clear h1
      go_enter Try.func5, Try.ntmps5
      go_wp2_with fail
      go_ret
      exact ⟨rfl, Below.refl _ _⟩
    have e1 : (a1 == 0) = false := by simpa using h1
    by_cases h2 : a2 = 0
    · have e2 : (a2 == 0) = true := by simpa using h2
      clear h1 h2
      go_enter Try.func5, Try.ntmps5
      go_wp2_with fail
      go_ret
      exact ⟨rfl, Below.refl _ _⟩
    have e2 : (a2 == 0) = false := by simpa using h2
    by_cases h3 : m < 4294967296
    · exact fnWalkZero_main A0 n0 c0 l0 a1 a2 m w HS hn q0 (by omega) r0 (by omega) e1 e2 hm (by rw [HM.out]; omega) HM m0 h3
    · clear h1 h2
      go_enter Try.func5, Try.ntmps5
      go_wp2_with fail
      go_ret
      exact ⟨rfl, Below.refl _ _⟩
  · skip
    go_enter Try.func5, Try.ntmps5
    go_wp2_with fail
    go_ret
    exact ⟨rfl, Below.refl _ _⟩
end Go.Proofs.Ytgpmnpimdbejnaa
