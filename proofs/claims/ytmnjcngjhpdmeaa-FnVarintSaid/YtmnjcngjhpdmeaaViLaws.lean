/- The walks of the laws FnVarint, FnVarintSmall, FnVarintTwo. -/
import Derived.Test.YtmnjcngjhpdmeaaVi
namespace Go.Proofs.Ytmnjcngjhpdmeaa
open Go.RowKit
set_option linter.unusedVariables false

/-- What a law leaves. -/
def Lawful (w : World) (e : Ending) (w' : World) : Prop := e = .returned (.bool true) ∧ Below w.heap.size w w'

theorem fnVarintTwo_main (x y : Nat) (hx : Hid (x < 4294967296)) (hy : Hid (y < 4294967296)) (w : World) :
    Calls Try.prog 5 #[.int .u32 x, .int .u32 y] w (Lawful w) := by
  go_enter Try.func5, Try.ntmps5
  go_wp2_with fail
  refine (uvarint_any _ x rfl hx.out _).mono ?_
  rintro e w1 ⟨v1, rfl, hown1, hb1⟩
  have HO1 := Lib.hid hown1; clear hown1
  go_wp2_with fail
  refine (uvarint_any _ y rfl hy.out _).mono ?_
  rintro e w2 ⟨v2, rfl, hown2, hb2⟩
  obtain ⟨A2, n2, c2, rfl, hs2⟩ := hown2.sl
  have HO1' := Lib.hid (HO1.out.below hb2)
  have HS2 := Lib.hid hs2
  have z1 := hb1.size
  have z2 := hb2.size
  have hlen : (Lib.uvarint x).length + (Lib.uvarint y).length ≤ 140737488355328 := by have := uv_len x hx.out; have := uv_len y hy.out; omega
  have HL := Lib.hid hlen
  clear hown2 hs2 HO1 hlen
  go_wp2_with (at_builtin; refine wpList_ap8 rfl _ _ rfl w.heap.size v1 _ rfl HO1'.out w2.heap.size A2 n2 c2 _ rfl HS2.out HL.out (by omega) ?_; intro v3 w3 hown3 hg3 _; obtain ⟨A3, n3, c3, rfl, hs3⟩ := hown3.sl; have HS3 := Lib.hid hs3; have hb3 := ((hb1.trans (hb2.mono z1)).grown hg3 (by omega) (fun k hk => (HO1'.out.lt k hk).1)); clear hs3 hown3 hg3)
  refine (varint_any n3 c3 w3.heap.size x A3 (Lib.uvarint y) w3 hx HS3 (Nat.le_refl _) (Lib.hid (by have := uv_len y hy.out; omega))).mono ?_
  rintro e w4 ⟨A4, n4, c4, rfl, hs4, hb4⟩
  have z3 := hb3.size
  have z4 := hb4.size
  have hn4 : 1 ≤ n4 := by have := hs4.len; have := Lib.uvarint_pos y; omega
  have hs4' : Sl w4 w4.heap.size A4 n4 c4 (Lib.uvarint y ++ []) := by rw [List.append_nil]; exact hs4
  have HS4 := Lib.hid hs4'
  have e4 : ((n4 : Int) == 0) = false := by simp; omega
  clear hs4 hs4'
  go_wp2_with fail
  refine (varint_any n4 c4 w4.heap.size y A4 [] w4 hy HS4 (Nat.le_refl _) (Lib.hid (by simp))).mono ?_
  rintro e w5 ⟨A5, n5, c5, rfl, hs5, hb5⟩
  obtain rfl : n5 = 0 := hs5.len.symm
  clear hs5
  go_wp2
  go_ret
  exact ⟨rfl, (hb3.trans (hb4.mono z3)).trans (hb5.mono (by omega))⟩
theorem fnVarintTwo_walk (a0 : Int) (w0 : (Lit.int .u32 a0).wf = true) (a1 : Int) (w1 : (Lit.int .u32 a1).wf = true) (w : World) :
    Calls Try.prog 5 #[.int .u32 a0, .int .u32 a1] w (Lawful w) := by
  obtain ⟨b0, b1⟩ := bounds_u32 w0
  obtain ⟨b2, b3⟩ := bounds_u32 w1
  obtain ⟨x, rfl⟩ := Int.eq_ofNat_of_zero_le b0
  obtain ⟨y, rfl⟩ := Int.eq_ofNat_of_zero_le b2
  exact fnVarintTwo_main x y (Lib.hid (by omega)) (Lib.hid (by omega)) w

theorem one8 : Lib.uvarint 1 = [1] := by rw [Lib.uvarint_small (by omega)]; rfl
theorem sl_one (w : World) : Sl (w.alloc (.cells #[.int .u8 1] 5)) (w.heap.size + 1) (some ⟨w.heap.size, 0, none⟩) 1 1 (Lib.uvarint 1 ++ []) := by rw [one8]; exact sl_new w 1 1 rfl

theorem fnVarint_main (x n c : Nat) (A : Option Addr) (l : List UInt8) (hx : Hid (x < 4294967296)) (w : World) (hs : Hid (Sl w w.heap.size A n c l)) (hn : n ≤ 2147483647) :
    Calls Try.prog 3 #[.int .u32 x, .slice A n c] w (Lawful w) := by
  have hl : l.length ≤ 2147483647 := by have := hs.out.len; omega
  have HL := Lib.hid hl
  clear hl
  go_enter Try.func3, Try.ntmps3
  go_wp2_with fail
  refine (uvarint_any _ x rfl hx.out _).mono ?_
  rintro e w1 ⟨v1, rfl, hown1, hb1⟩
  have HO1 := Lib.hid hown1
  have HS1 := Lib.hid (hs.out.below hb1)
  have z1 := hb1.size
  have HL2 := Lib.hid (show (Lib.uvarint x).length + l.length ≤ 140737488355328 by have := uv_len x hx.out; have := HL.out; omega)
  clear hown1
  go_wp2_with (at_builtin; refine wpList_ap8 rfl _ _ rfl w.heap.size v1 _ rfl HO1.out w.heap.size A n c l rfl HS1.out HL2.out z1 ?_; intro v3 w3 hown3 hg3 _; obtain ⟨A3, n3, c3, rfl, hs3⟩ := hown3.sl; have HS3 := Lib.hid hs3; have hb3 := (hb1.grown hg3 z1 (fun k hk => (HO1.out.lt k hk).1)); clear hs3 hown3 hg3)
  refine (varint_any n3 c3 w3.heap.size x A3 l w3 hx HS3 (Nat.le_refl _) (Lib.hid (by have := HL.out; omega))).mono ?_
  rintro e w4 ⟨A4, n4, c4, rfl, hs4, hb4⟩
  have z3 := hb3.size
  have z4 := hb4.size
  have HS4 := Lib.hid hs4
  clear hs4
  go_wp2_with fail
  refine (varint_any 1 1 (w4.heap.size + 1) 1 _ [] _ (Lib.hid (by decide)) (Lib.hid (sl_one w4)) (by simp) (Lib.hid (by simp))).mono ?_
  rintro e w5 ⟨A5, n5, c5, rfl, hs5, hb5⟩
  have hb5' : Below w4.heap.size w4 w5 := ((Below.refl _ _).alloc (Nat.le_refl _) _).trans (hb5.mono (by simp))
  have hall : Below w.heap.size w w5 := (hb3.trans (hb4.mono z3)).trans (hb5'.mono (by omega))
  have HSa := Lib.hid (HS4.out.below hb5')
  have HSb := Lib.hid (hs.out.below hall)
  have HA := Lib.hid hall
  clear hs5 hb5 hb5' hall
  go_wp2_with fail
  refine (same8_any A4 A n4 n c4 c _ _ l w5 HSa.out HSb.out).mono ?_
  rintro e w' ⟨rfl, rfl⟩
  go_wp2
  go_ret
  exact ⟨rfl, HA.out⟩
theorem fnVarint_walk (a0 : Int) (w0 : (Lit.int .u32 a0).wf = true) (A1 : Option Addr) (n1 c1 : Nat) (l1 : List UInt8) (w : World) (h1 : Sl w w.heap.size A1 n1 c1 l1) :
    Calls Try.prog 3 #[.int .u32 a0, .slice A1 n1 c1] w (Lawful w) := by
  obtain ⟨b0, b1⟩ := bounds_u32 w0
  obtain ⟨x, rfl⟩ := Int.eq_ofNat_of_zero_le b0
  have hx : x < 4294967296 := by omega
  by_cases hn : n1 ≤ 2147483647
  · exact fnVarint_main x n1 c1 A1 l1 (Lib.hid hx) w (Lib.hid h1) hn
  · have hm := h1.mx
    have hc := h1.cap
    clear h1 w0 b0 b1 hx
    go_enter Try.func3, Try.ntmps3
    go_wp2_with fail
    go_ret
    exact ⟨rfl, Below.refl _ _⟩

theorem fnVarintSmall_main (b : UInt8) (z : Int) (x n c : Nat) (A : Option Addr) (l : List UInt8) (hz : Hid (z = (b.toNat : Int))) (hx : Hid (z = x)) (h0 : 0 ≤ z) (h7 : z ≤ 127) (w : World) (hs : Hid (Sl w w.heap.size A n c l)) (hn : n ≤ 2147483647) :
    Calls Try.prog 4 #[.int .u8 z, .slice A n c] w (Lawful w) := by
  have HL := Lib.hid (show l.length ≤ 2147483647 by have := hs.out.len; omega)
  have HU := Lib.hid (show [b] = Lib.uvarint x by
    rw [Lib.uvarint_small (by have := hx.out; omega), show x = b.toNat by have := hx.out; have := hz.out; omega, Nat.toUInt8_eq, UInt8.ofNat_toNat])
  have HE := Lib.hid (show (x : Int) = z from hx.out.symm)
  have HO := fun W : World => Lib.hid (show Own8 (W.alloc (.cells #[.int .u8 z] 5)) W.heap.size (.slice (some ⟨W.heap.size, 0, none⟩) 1 1) [b] by
    rw [hz.out]
    exact ⟨rfl, .inr ⟨W.heap.size, 1, _, rfl, Nat.le_refl _, heap_alloc_new W _, Nat.le_refl _, by unfold maxLen; omega, rfl, rfl⟩⟩)
  have HS0 := Lib.hid (hs.out.alloc (Nat.le_refl _) (.cells #[.int .u8 z] 5))
  have HL2 := Lib.hid (show [b].length + l.length ≤ 140737488355328 by have := HL.out; simp; omega)
  have HOw := HO w
  clear HO
  go_enter Try.func4, Try.ntmps4
  go_wp2_with (at_builtin; refine wpList_ap8 rfl _ _ rfl w.heap.size _ [b] rfl HOw.out w.heap.size A n c l rfl HS0.out HL2.out (by simp) ?_; intro v3 w3 hown3 hg3 _; obtain ⟨A3, n3, c3, rfl, hs3⟩ := hown3.sl; have HS3 := Lib.hid hs3; have hb3 := (((Below.refl _ _).alloc (Nat.le_refl w.heap.size) _).grown hg3 (by simp) (fun k hk => (HOw.out.lt k hk).1)); clear hs3 hown3 hg3)
  rw [HU.out] at HS3
  refine (varint_any n3 c3 w3.heap.size x A3 l w3 (Lib.hid (by have := hx.out; omega)) HS3 (Nat.le_refl _) (Lib.hid (by have := HL.out; omega))).mono ?_
  rintro e w4 ⟨A4, n4, c4, rfl, hs4, hb4⟩
  rw [HE.out]
  have z3 := hb3.size
  have z4 := hb4.size
  have HS4 := Lib.hid hs4
  clear hs4
  go_wp2_with fail
  refine (varint_any 1 1 (w4.heap.size + 1) 1 _ [] _ (Lib.hid (by decide)) (Lib.hid (sl_one w4)) (by simp) (Lib.hid (by simp))).mono ?_
  rintro e w5 ⟨A5, n5, c5, rfl, hs5, hb5⟩
  have hb5' : Below w4.heap.size w4 w5 := ((Below.refl _ _).alloc (Nat.le_refl _) _).trans (hb5.mono (by simp))
  have hall : Below w.heap.size w w5 := (hb3.trans (hb4.mono z3)).trans (hb5'.mono (by omega))
  have HSa := Lib.hid (HS4.out.below hb5')
  have HSb := Lib.hid (hs.out.below hall)
  have HA := Lib.hid hall
  clear hs5 hb5 hb5' hall
  go_wp2_with fail
  refine (same8_any A4 A n4 n c4 c _ _ l w5 HSa.out HSb.out).mono ?_
  rintro e w' ⟨rfl, rfl⟩
  go_wp2
  go_ret
  exact ⟨rfl, HA.out⟩
theorem fnVarintSmall_walk (a0 : Int) (w0 : (Lit.int .u8 a0).wf = true) (A1 : Option Addr) (n1 c1 : Nat) (l1 : List UInt8) (w : World) (h1 : Sl w w.heap.size A1 n1 c1 l1) :
    Calls Try.prog 4 #[.int .u8 a0, .slice A1 n1 c1] w (Lawful w) := by
  obtain ⟨b0, b1⟩ := bounds_u8 w0
  have hm := h1.mx
  have hc := h1.cap
  clear w0
  by_cases hn : n1 ≤ 2147483647
  · by_cases h7 : a0 ≤ 127
    · exact fnVarintSmall_main a0.toNat.toUInt8 a0 a0.toNat n1 c1 A1 l1 (Lib.hid (by rw [← u8_of _ (by omega)]; omega)) (Lib.hid (by omega)) b0 h7 w (Lib.hid h1) hn
    · clear h1
      go_enter Try.func4, Try.ntmps4
      go_wp2_with fail
      go_ret
      exact ⟨rfl, Below.refl _ _⟩
  · clear h1
    go_enter Try.func4, Try.ntmps4
    go_wp2_with fail
    go_ret
    exact ⟨rfl, Below.refl _ _⟩
end Go.Proofs.Ytmnjcngjhpdmeaa
