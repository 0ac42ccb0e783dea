/- The walk of the law FnValueEdges. -/
import Derived.Test.YtmnjcngjhpdmeaaValAt
import Derived.Test.YtmnjcngjhpdmeaaPlR
import Derived.Test.YtmnjcngjhpdmeaaRng
namespace Go.Proofs.Ytmnjcngjhpdmeaa
open Go.RowKit
set_option linter.unusedVariables false
attribute [local go_sem ↓] Go.wp_at_zero Go.wp_at_succ

/-- What holds in the region that draws: the range in block g, the table that the slice reads as. -/
structure EdI (g : Nat) (x a b : Int) (ps : List (Int × Int)) (w0 : World) (B : Nat) (A : Option Addr) (n c : Nat) (W : World) : Prop where
  below : Below w0.heap.size w0 W
  lt : g < W.heap.size
  lb : B ≤ W.heap.size
  c0 : W.cell? ⟨g, 0, none⟩ = some (.int .i32 x)
  c1 : W.cell? ⟨g, 1, none⟩ = some (.int .u32 a)
  c2 : W.cell? ⟨g, 2, none⟩ = some (.int .u32 b)
  sl : Sl W B A n c (tableB (-1) ps)
theorem EdI.next {W W' w0 : World} {g B n c : Nat} {A : Option Addr} {x a b : Int} {ps : List (Int × Int)} (h : EdI g x a b ps w0 B A n c W) (hb : Below W.heap.size W W') : EdI g x a b ps w0 B A n c W' :=
  ⟨h.below.trans (hb.mono h.below.size), Nat.lt_of_lt_of_le h.lt hb.size, Nat.le_trans h.lb hb.size, (hb.cell (p := ⟨g, 0, none⟩) h.lt).trans h.c0, (hb.cell (p := ⟨g, 1, none⟩) h.lt).trans h.c1, (hb.cell (p := ⟨g, 2, none⟩) h.lt).trans h.c2, h.sl.below (hb.mono h.lb)⟩
theorem EdI.alloc {W w0 : World} {g B n c : Nat} {A : Option Addr} {x a b : Int} {ps : List (Int × Int)} (h : EdI g x a b ps w0 B A n c W) (o : Obj) : EdI g x a b ps w0 B A n c (W.alloc o) := h.next ((Below.refl _ _).alloc (Nat.le_refl _) _)

/-- A slice that reads as a table in which the place t has the value r. -/
def SrcOk (W : World) (A : Option Addr) (n c : Nat) (t r : Int) : Prop :=
  ∃ (qs : List (Int × Int)) (B : Nat), Sl W B A n c (tableB (-1) qs) ∧ B ≤ W.heap.size ∧ RightP qs 1 ∧ (∀ p ∈ qs, PieceOk p) ∧ qs.length ≤ 2147483647 ∧ 0 ≤ t ∧ t < 4294967296 ∧ valAt 1 t qs = r

theorem value_src {W : World} {A : Option Addr} {n c : Nat} {t r : Int} (h : SrcOk W A n c t r) :
    Calls Try.prog 21 #[.slice A n c, .int .u32 1, .int .u32 0, .int .u64 0, .int .u64 t] W (VPost W r) := by
  obtain ⟨qs, B, h1, h2, h3, h4, h5, h6, h7, h8⟩ := h
  have h := valueAt_any n c B A 1 t 0 t qs W (Lib.hid h1) h2 (Lib.hid h5) (Lib.hid h3) (Lib.hid h4) (by omega) (by omega) (by omega) (by omega) h6 (by omega) (Lib.hid (by omega))
  rwa [h8] at h

theorem tab410 : tableB (-1) [(1, 1)] = [4, 1, 0] := by
  have e4 : Lib.uvarint 4 = [4] := by rw [Lib.uvarint_small (by omega)]; rfl
  have e1 : Lib.uvarint 1 = [1] := by rw [Lib.uvarint_small (by omega)]; rfl
  have hz : Lib.zigzag (wrap32 (1 - -1)) = 4 := by decide +kernel
  simp only [tableB, bodyB, encB, hz, e4]
  rw [show ((1 : Int)).toNat = 1 from rfl, e1]
  rfl
theorem src410 (W : World) : SrcOk (W.alloc (.cells #[.int .u8 4, .int .u8 1, .int .u8 0] 5)) (some ⟨W.heap.size, 0, none⟩) 3 3 0 1 := by
  refine ⟨[(1, 1)], W.heap.size + 1, ?_, by simp, ⟨by decide, trivial, by decide, by decide⟩, fun p hp => ?_, by simp, by omega, by omega, by decide⟩
  · rw [tab410]
    refine ⟨rfl, by omega, by omega, fun e => (by cases e), .inr ⟨W.heap.size, 0, rfl, by omega, fun j u hu => ?_⟩⟩
    rw [Nat.zero_add, cell_of_row _ _ j _ _ _ (heap_alloc_new W _)]
    simpa [Lib.byteCells] using hu
  · simp at hp
    subst hp
    exact ⟨⟨by decide, by decide⟩, by decide, by decide⟩

theorem fnValueEdges_main (A : Option Addr) (n c : Nat) (ps : List (Int × Int)) (k : Nat) (w : World) (hs : Hid (SlP w w.heap.size A n c ps)) (hn : n ≤ 2147483647) (hk : k < n) :
    Calls Try.prog 11 #[.slice A n c, .int .i64 k] w (Lawful w) := by
  go_enter Try.func11, Try.ntmps11
  go_wp2_with fail
  refine (right_any A n c ps 1 w hs (by omega) (by omega)).mono ?_
  rintro e w1 ⟨r, rfl, hr, hb1⟩
  have HB1 := Lib.hid hb1
  cases r
  · clear hr hb1
    go_wp2
    go_ret
    exact ⟨rfl, HB1.out⟩
  have HR := Lib.hid (hr rfl)
  have hz1 := hb1.size
  have HS1 := Lib.hid (show SlP w1 w1.heap.size A n c ps from (hs.out.below hb1).keep hz1 (fun _ _ _ => rfl))
  clear hr hb1
  go_wp2_with fail
  refine (ranges_any A n c ps 1 w1 HS1 hn HR).mono ?_
  rintro e w2 ⟨v2, rfl, hown2, hb2⟩
  have hz2 := hb2.size
  obtain ⟨A2, n2, c2, rfl, hs2⟩ := hown2.sl
  have hn2 : n2 = n := by rw [← hs2.len, rangesL_len]; exact hs.out.len
  subst hn2
  obtain ⟨b, o, rfl, hbl, hcell⟩ := hs2.at_ (by omega)
  have hkl : k < ps.length := by have := hs.out.len; omega
  have hrk := rngK HR.out hs.out.ok hkl
  obtain ⟨c1, c2', c3'⟩ := hcell k (by rw [rangesL_len]; exact hkl)
  have hrg : (rangesL 1 0 ps)[k]'(by rw [rangesL_len]; exact hkl) = ((ps[k]).1, sumL (ps.take k) * 1, sumL (ps.take (k + 1)) * 1) := by
    have := hrk.rng
    rw [List.getElem?_eq_getElem (by rw [rangesL_len]; exact hkl)] at this
    injection this
  rw [hrg] at c1 c2' c3'
  simp only at c1 c2' c3'
  generalize sumL (ps.take (k + 1)) * 1 = en at *
  generalize sumL (ps.take k) * 1 = st at *
  generalize (ps[k]).1 = x at *
  have a0 := hrk.a0
  have ab := hrk.ab
  have b1 := hrk.b1
  have HVa := Lib.hid hrk.va
  have HVb := Lib.hid hrk.vb
  have HB2 := Lib.hid (HB1.out.trans (hb2.mono hz1))
  have HS2 := Lib.hid (show SlP (w2.alloc (.cells #[.int .i32 x, .int .u32 st, .int .u32 en] 46)) (w2.heap.size + 1) A n2 c ps from ((hs.out.below HB2.out).below ((Below.refl _ _).alloc HB2.out.size _)).keep (by have := HB2.out.size; omega) (fun _ _ _ => rfl))
  clear hrg hrk hcell hs2 hown2 hb2 hkl
  go_wp2_with fail
  refine (table_any A n2 c ps (w2.alloc (.cells #[.int .i32 x, .int .u32 st, .int .u32 en] 46)) (Lib.hid (by have h := HS2.out; simpa using h)) hn).mono ?_
  rintro e w3 ⟨v3, rfl, hown3, hb3⟩
  have hz3 := hb3.size
  simp at hz3
  obtain ⟨A3, n3, c3, rfl, hs3⟩ := hown3.sl
  have HI : Hid (EdI w2.heap.size x st en ps w w3.heap.size A3 n3 c3 w3.drew) := Lib.hid ⟨Below.drew ((HB2.out.alloc HB2.out.size _).trans (hb3.mono (by have := HB2.out.size; simp; omega))), hz3, Nat.le_refl _,
    (hb3.cell (p := ⟨w2.heap.size, 0, none⟩) (by simp)).trans (cell_of_row _ _ 0 _ _ _ (heap_alloc_new w2 _)), (hb3.cell (p := ⟨w2.heap.size, 1, none⟩) (by simp)).trans (cell_of_row _ _ 1 _ _ _ (heap_alloc_new w2 _)), (hb3.cell (p := ⟨w2.heap.size, 2, none⟩) (by simp)).trans (cell_of_row _ _ 2 _ _ _ (heap_alloc_new w2 _)), hs3.drew⟩
  have HV : Hid (∀ (W : World), EdI w2.heap.size x st en ps w w3.heap.size A3 n3 c3 W → ∀ (A : Option Addr) (n c : Nat) (t r : Int), SrcOk W A n c t r → Calls Try.prog 21 #[.slice A n c, .int .u32 1, .int .u32 0, .int .u64 0, .int .u64 t] W (fun e W' => e = .returned (.int .i32 r) ∧ EdI w2.heap.size x st en ps w w3.heap.size A3 n3 c3 W')) :=
    Lib.hid fun W hW A n c t r h => (value_src h).mono fun e W' ⟨h1, h2⟩ => ⟨h1, hW.next h2⟩
  have hpl : ps.length ≤ 2147483647 := by have := hs.out.len; omega
  have HSa : Hid (∀ W, EdI w2.heap.size x st en ps w w3.heap.size A3 n3 c3 W → SrcOk W A3 n3 c3 st x) := Lib.hid fun W hW => ⟨ps, w3.heap.size, hW.sl, hW.lb, HR.out, hs.out.ok, hpl, a0, by omega, HVa.out⟩
  have HSb : Hid (∀ W, EdI w2.heap.size x st en ps w w3.heap.size A3 n3 c3 W → SrcOk W A3 n3 c3 (en - 1) x) := Lib.hid fun W hW => ⟨ps, w3.heap.size, hW.sl, hW.lb, HR.out, hs.out.ok, hpl, by omega, by omega, HVb.out⟩
  have k1 : w3.cell? ⟨w2.heap.size, 0, none⟩ = some (.int .i32 x) := HI.out.c0
  have k2 : w3.cell? ⟨w2.heap.size, 1, none⟩ = some (.int .u32 st) := HI.out.c1
  have k3 : w3.cell? ⟨w2.heap.size, 2, none⟩ = some (.int .u32 en) := HI.out.c2
  have ws : IntKind.u64.wrap st = st := by rw [IntKind.wrap_u64]; omega
  have we : IntKind.u64.wrap en = en := by rw [IntKind.wrap_u64]; omega
  have we1 : IntKind.u64.wrap (en - 1) = en - 1 := by rw [IntKind.wrap_u64]; omega
  clear hown3 hs3 hb3 hpl
  go_wp2_with fail
  go_region_held3 (fun W => W.cell? ⟨w2.heap.size, 0, none⟩ = some (.int .i32 x) ∧ W.cell? ⟨w2.heap.size, 1, none⟩ = some (.int .u32 st) ∧ W.cell? ⟨w2.heap.size, 2, none⟩ = some (.int .u32 en))
    (first | go_keep | exact ⟨(HI.out.alloc _).c0, (HI.out.alloc _).c1, (HI.out.alloc _).c2⟩)
    ((go_at_call 21; refine (HV.out _ ?_ _ _ _ _ ?_ ?_).mono ?_; (first | exact HI.out | exact HI.out.alloc _); rotate_left 1; (first | exact HSa.out _ HI.out | exact HSb.out _ HI.out | exact src410 _); rintro e w5 ⟨rfl, hi⟩; have HI := Lib.hid hi; have k1 := hi.c0; have k2 := hi.c1; have k3 := hi.c2; clear hi))
  have HBz := Lib.hid HI.out.below
  go_wp2
  go_ret
  exact ⟨rfl, HBz.out⟩
theorem fnValueEdges_walk (A0 : Option Addr) (n0 c0 : Nat) (l0 : List (Int × Int)) (a1 : Int) (w1 : (Lit.int .i64 a1).wf = true) (w : World) (s0 : SlP w w.heap.size A0 n0 c0 l0) :
    Calls Try.prog 11 #[.slice A0 n0 c0, .int .i64 a1] w (Lawful w) := by
  obtain ⟨q0, q1⟩ := bounds_i64 w1
  have hm := s0.mx
  have hc := s0.cap
  have HS := Lib.hid s0
  clear s0 w1
  by_cases hn : n0 ≤ 2147483647
  · by_cases h0 : a1 < 0
    · go_enter Try.func11, Try.ntmps11
      go_wp2_with fail
      refine (right_any A0 n0 c0 l0 1 w HS (by omega) (by omega)).mono ?_
      rintro e w1 ⟨r, rfl, hr, hb1⟩
      have HB1 := Lib.hid hb1
      clear hr hb1
      cases r <;> (go_wp2; go_ret; exact ⟨rfl, HB1.out⟩)
    · by_cases h1 : a1 < (n0 : Int)
      · obtain ⟨k, rfl⟩ := Int.eq_ofNat_of_zero_le (show 0 ≤ a1 by omega)
        exact fnValueEdges_main A0 n0 c0 l0 k w HS hn (by omega)
      · go_enter Try.func11, Try.ntmps11
        go_wp2_with fail
        refine (right_any A0 n0 c0 l0 1 w HS (by omega) (by omega)).mono ?_
        rintro e w1 ⟨r, rfl, hr, hb1⟩
        have HB1 := Lib.hid hb1
        clear hr hb1
        cases r <;> (go_wp2; go_ret; exact ⟨rfl, HB1.out⟩)
  · go_enter Try.func11, Try.ntmps11
    go_wp2_with fail
    go_ret
    exact ⟨rfl, Below.refl _ _⟩
end Go.Proofs.Ytmnjcngjhpdmeaa
