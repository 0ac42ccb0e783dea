/- The walk of the law FnReaders. -/
import Derived.Test.YtgpmnpimdbejnaaReadLaws
import Derived.Test.YtgpmnpimdbejnaaPlR
import Derived.Test.YtgpmnpimdbejnaaValAt
namespace Go.Proofs.Ytgpmnpimdbejnaa
open Go.RowKit
set_option linter.unusedVariables false
attribute [local go_sem ↓] Go.wp_at_zero Go.wp_at_succ

def RdsRel (w : World) (n : Nat) (vi : Value) (wr : World) : Prop := ∃ k : Nat, vi = .int .i64 k ∧ k ≤ n ∧ Below w.heap.size w wr

/-- What holds in the region that draws. -/
structure RdI (w3 : World) (g : Nat) (x a b : Int) (W : World) : Prop where
  below : Below w3.heap.size w3 W
  lt : g < W.heap.size
  c0 : W.cell? ⟨g, 0, none⟩ = some (.int .i32 x)
  c1 : W.cell? ⟨g, 1, none⟩ = some (.int .u32 a)
  c2 : W.cell? ⟨g, 2, none⟩ = some (.int .u32 b)
theorem RdI.next {w3 W W' : World} {g : Nat} {x a b : Int} (h : RdI w3 g x a b W) (hb : Below W.heap.size W W') : RdI w3 g x a b W' :=
  ⟨h.below.trans (hb.mono h.below.size), Nat.lt_of_lt_of_le h.lt hb.size, (hb.cell (p := ⟨g, 0, none⟩) h.lt).trans h.c0, (hb.cell (p := ⟨g, 1, none⟩) h.lt).trans h.c1, (hb.cell (p := ⟨g, 2, none⟩) h.lt).trans h.c2⟩

theorem fnReaders_main (A : Option Addr) (n c : Nat) (ps : List (Int × Int)) (s : Int) (w : World) (hs : Hid (SlP w w.heap.size A n c ps)) (hn : n ≤ 2147483647) (s0 : 0 ≤ s) (s1 : s < 4294967296) :
    Calls Try.prog 11 #[.slice A n c, .int .u32 s] w (Lawful w) := by
  go_enter Try.func11, Try.ntmps11
  go_wp2_with fail
  refine (right_any A n c ps s w hs s0 s1).mono ?_
  rintro e w1 ⟨r, rfl, hr, hb1⟩
  have HB1 := Lib.hid hb1
  cases r
  · clear hr hb1
    go_wp2
    go_ret
    exact ⟨rfl, HB1.out⟩
  have HR := Lib.hid (hr rfl)
  have hz1 := hb1.size
  have HS1 := Lib.hid (show SlP w1 w1.heap.size A n c ps from (hs.out.below hb1).keep hz1 (fun _ _ _ => rfl))
  clear hr hb1
  go_wp2_with fail
  refine (table_any A n c ps w1 HS1 hn).mono ?_
  rintro e w2 ⟨v2, rfl, hown2, hb2⟩
  obtain ⟨A2, n2, c2, rfl, hs2⟩ := hown2.sl
  have hz2 := hb2.size
  have HS2 := Lib.hid hs2
  have HB2 := Lib.hid (HB1.out.trans (hb2.mono hz1))
  clear hown2 hs2 hb2
  go_wp2_with fail
  refine (read_table A2 n2 c2 w2.heap.size s ps w2 HR.out hs.out.ok HS2.out (Nat.le_refl _) (by have := hs.out.len; omega)).mono ?_
  rintro e w3 ⟨v3, rfl, hown3, hb3⟩
  have hz3 := hb3.size
  obtain ⟨A3, n3, c3, rfl, hs3⟩ := hown3.sl
  have hn3 : n3 = n := by rw [← hs3.len, rangesL_len]; exact hs.out.len
  subst hn3
  have hpos : 0 < n3 := by have h := HR.out.scale.2.2; have h2 := hs.out.len; cases ps with | nil => exact absurd rfl h | cons p q => simp at h2; omega
  obtain ⟨b, o, rfl, hbl, hcell⟩ := hs3.at_ hpos
  have HC := Lib.hid hcell
  have HB3 := Lib.hid (HB2.out.trans (hb3.mono (by omega)))
  have HS3 := Lib.hid (HS2.out.below hb3)
  clear hown3 hs3 hb3 hcell
  go_wp2
  go_loopw [23] (fun vi wr => RdsRel w3 n3 vi wr) (fun vi _ => n3 - (intOf vi).toNat)
  case atStart => exact ⟨0, rfl, Nat.zero_le _, Below.refl _ _⟩
  case round =>
    obtain ⟨k, rfl, hk, hb⟩ := hrel
    have HB := Lib.hid hb
    have hbs := hb.size
    clear hb
    by_cases hlt : k < n3
    · have hkl : k < ps.length := by have := hs.out.len; omega
      have hrk := rngK HR.out hs.out.ok hkl
      obtain ⟨c1, c2', c3'⟩ := HC.out k (by rw [rangesL_len]; exact hkl)
      have hrg : (rangesL s 0 ps)[k]'(by rw [rangesL_len]; exact hkl) = ((ps[k]).1, sumL (ps.take k) * s, sumL (ps.take (k + 1)) * s) := by
        have := hrk.rng
        rw [List.getElem?_eq_getElem (by rw [rangesL_len]; exact hkl)] at this
        injection this
      rw [hrg] at c1 c2' c3'
      simp only at c1 c2' c3'
      generalize sumL (ps.take (k + 1)) * s = en at *
      generalize sumL (ps.take k) * s = st at *
      generalize (ps[k]).1 = x at *
      have a0 := hrk.a0
      have ab := hrk.ab
      have b1 := hrk.b1
      have HV : Hid (∀ W : World, RdI w3 wr.heap.size x st en W → ∀ t : Int, 0 ≤ t → t < 4294967296 → valAt s t ps = x → Calls Try.prog 19 #[.slice A2 n2 c2, .int .u32 s, .int .u32 0, .int .u64 0, .int .u64 t] W (fun e W' => e = .returned (.int .i32 x) ∧ RdI w3 wr.heap.size x st en W')) := Lib.hid (by
        intro W hW t t0 t1 ht
        have h := valueAt_any n2 c2 w2.heap.size A2 s t 0 t ps W (Lib.hid (HS3.out.below (hW.below.mono hz3))) (by have := hW.below.size; omega) (Lib.hid (by have := hs.out.len; omega)) HR (Lib.hid hs.out.ok) s0 s1 (by omega) (by omega) t0 (by omega) (Lib.hid (by omega))
        rw [ht] at h
        exact h.mono fun e W' ⟨h1, h2⟩ => ⟨h1, hW.next h2⟩)
      have HVa := Lib.hid hrk.va
      have HVb := Lib.hid hrk.vb
      rw [← HB.out.cell (p := ⟨b, o + k * 3, none⟩) hbl] at c1
      rw [← HB.out.cell (p := ⟨b, o + k * 3 + 1, none⟩) hbl] at c2'
      rw [← HB.out.cell (p := ⟨b, o + k * 3 + 1 + 1, none⟩) hbl] at c3'
      have HI : Hid (RdI w3 wr.heap.size x st en (wr.alloc (.cells #[.int .i32 x, .int .u32 st, .int .u32 en] 36)).drew) := Lib.hid ⟨Below.drew (HB.out.alloc hbs _), by simp, cell_of_row _ _ 0 _ _ _ (heap_alloc_new wr _), cell_of_row _ _ 1 _ _ _ (heap_alloc_new wr _), cell_of_row _ _ 2 _ _ _ (heap_alloc_new wr _)⟩
      have ws : IntKind.u64.wrap st = st := by rw [IntKind.wrap_u64]; omega
      have we : IntKind.u64.wrap en = en := by rw [IntKind.wrap_u64]; omega
      have we1 : IntKind.u64.wrap (en - 1) = en - 1 := by rw [IntKind.wrap_u64]; omega
      clear hrg hrk hkl
      go_wp2_with fail
      go_region_held3 (fun W => W.cell? ⟨wr.heap.size, 0, none⟩ = some (.int .i32 x) ∧ W.cell? ⟨wr.heap.size, 1, none⟩ = some (.int .u32 st) ∧ W.cell? ⟨wr.heap.size, 2, none⟩ = some (.int .u32 en)) (go_keep)
        ((go_at_call 19; refine (HV.out _ HI.out _ ?_ ?_ ?_).mono ?_; omega; omega; (first | exact HVa.out | exact HVb.out); rintro e w5 ⟨rfl, hi⟩; have HI := Lib.hid hi; have k1 := hi.c0; have k2 := hi.c1; have k3 := hi.c2; clear hi))
      have HBz := Lib.hid HI.out.below
      go_wp2
      go_roundw
      case rel => exact ⟨k + 1, by go_num, by omega, HBz.out⟩
      case measure => simp [intOf]; omega
    · go_wp2
      go_ret
      exact ⟨rfl, HB3.out.trans (HB.out.mono (by have := HB3.out.size; omega))⟩
theorem fnReaders_walk (A0 : Option Addr) (n0 c0 : Nat) (l0 : List (Int × Int)) (a1 : Int) (w1 : (Lit.int .u32 a1).wf = true) (w : World) (s0 : SlP w w.heap.size A0 n0 c0 l0) :
    Calls Try.prog 11 #[.slice A0 n0 c0, .int .u32 a1] w (Lawful w) := by
  obtain ⟨q0, q1⟩ := bounds_u32 w1
  have hm := s0.mx
  have hc := s0.cap
  by_cases hn : n0 ≤ 2147483647
  · exact fnReaders_main A0 n0 c0 l0 a1 w (Lib.hid s0) hn q0 (by omega)
  · clear s0 w1
    go_enter Try.func11, Try.ntmps11
    go_wp2_with fail
    go_ret
    exact ⟨rfl, Below.refl _ _⟩
end Go.Proofs.Ytgpmnpimdbejnaa
