/- The contract of the thin function Walk. -/
import Derived.Test.YtgpmnpimdbejnaaWalk
import Derived.Deep.RegionHeld3
import Derived.Deep.DrawnRows
namespace Go.Proofs.Ytgpmnpimdbejnaa
open Go.RowKit
set_option linter.unusedVariables false
attribute [local go_sem ↓] Go.wp_at_zero Go.wp_at_succ

section
variable {w w' : World} {g b B n c : Nat} {A : Option Addr} {pc nxt sc val s : Int} {st dn : Bool} {ps : List (Int × Int)} {tail : List UInt8} {k : Nat}
theorem It.same (h : It w g A n c pc nxt sc val st dn) (e : w'.heap[g]? = w.heap[g]?) : It w' g A n c pc nxt sc val st dn := e.trans h
theorem ItK.same (h : ItK w g b B s ps tail k) (e : w'.heap[g]? = w.heap[g]?) (hs : ∀ o, w'.cell? ⟨b, o, none⟩ = w.cell? ⟨b, o, none⟩) : ItK w' g b B s ps tail k := by
  rcases h with ⟨hk, o, n, c, hI, hsl⟩ | ⟨hk, A, n, c, pc, nx, v, hI⟩
  · refine .inl ⟨hk, o, n, c, hI.same e, hsl.len, hsl.cap, hsl.mx, hsl.nil, ?_⟩
    rcases hsl.rd with h0 | ⟨b', o', e', hb, hc⟩
    · exact .inl h0
    · cases e'
      exact .inr ⟨b, o, rfl, hb, fun j u hu => (hs _).trans (hc j u hu)⟩
  · exact .inr ⟨hk, A, n, c, pc, nx, v, hI.same e⟩
end

def WalkRel (w : World) (g b B mm : Nat) (s : Int) (ps : List (Int × Int)) (tail : List UInt8) (vo vi : Value) (wr : World) : Prop :=
  ∃ k : Nat, vi = .int .i64 k ∧ k ≤ ps.length ∧ k ≤ mm ∧ ItK wr g b B s ps tail k ∧ OwnR wr (g + 1) vo (rangesL s 0 (ps.take k)) ∧ Below w.heap.size w wr ∧ g < wr.heap.size ∧ b < wr.heap.size ∧ vo.ownBlock ≠ some b
def WalkPost (w : World) (rs : List (Int × Int × Int)) (dn : Bool) (e : Ending) (w' : World) : Prop :=
  ∃ v, e = .returned (.tuple #[v, .bool dn]) ∧ OwnR w' w.heap.size v rs ∧ Below w.heap.size w w'

theorem walk_any (A : Option Addr) (n c B mm : Nat) (s : Int) (ps : List (Int × Int)) (tail : List UInt8) (w : World) (HR : Hid (RightP ps s)) (HOk : Hid (∀ p ∈ ps, PieceOk p)) (hs : Hid (Sl w B A n c (leftB (-1) ps tail))) (hB : B ≤ w.heap.size) (hl : Hid ((leftB (-1) ps tail).length ≤ 70368744177664)) (hpl : ps.length ≤ 2147483647) (hmm : mm ≤ 9223372036854775807) :
    Calls Try.prog 13 #[.slice A n c, .int .u32 s, .int .i64 mm] w (WalkPost w (rangesL s 0 (ps.take mm)) (decide (ps.length ≤ mm))) := by
  go_enter Try.func13, Try.ntmps13
  go_wp2_with fail
  refine (newIter_any s w).mono ?_
  rintro e w0 ⟨rfl, hw0⟩
  have hI0 : It w0 w.heap.size none 0 0 0 0 s 0 false false := by rw [hw0]; exact heap_alloc_new w _
  have hb0 : Below w.heap.size w w0 := by rw [hw0]; exact (Below.refl _ _).alloc (Nat.le_refl _) _
  have hz0 : w0.heap.size = w.heap.size + 1 := by rw [hw0]; simp
  have HI0 := Lib.hid hI0
  have HB0 := Lib.hid hb0
  have HZ0 := Lib.hid hz0
  have hzz : w.heap.size + 1 ≤ w0.heap.size := by omega
  have HS0 := Lib.hid (hs.out.below (hb0.mono hB))
  clear hw0 hI0 hb0 hz0
  go_wp2_with fail
  refine (clone8_fresh A n c B _ w0 HS0.out (by omega) hl.out).mono ?_
  rintro e w1 ⟨A1, n1, c1, rfl, hs1, hb1, hf1⟩
  obtain ⟨b, o, rfl, hbl, _⟩ := hs1.at_ (k := 0) (by have := hs1.len; simp [leftB] at this; omega)
  have hbg : w.heap.size < b := by
    rcases hf1 with h | ⟨a, h, h2⟩
    · exact absurd h (leftB_ne _ _ _)
    · cases h; have := HZ0.out; simp at h2; omega
  have hz1 := hb1.size
  have HI1 := Lib.hid (show It w1 w.heap.size none 0 0 0 0 s 0 false false from HI0.out.same (hb1.block _ (by omega)))
  have HB1 := Lib.hid (HB0.out.trans (hb1.mono (by omega)))
  have HS1 := Lib.hid hs1
  clear hs1 hb1 hf1
  go_wp2_with fail
  refine (init_k w.heap.size b o n1 c1 w1.heap.size s ps tail none 0 0 0 0 0 false false w1 HR.out HOk.out (by omega) HI1.out HS1.out).mono ?_
  rintro e w2 ⟨rfl, hk2, hg2⟩
  have HK2 := Lib.hid hk2
  have HB2 := Lib.hid (HB1.out.trans (hg2.below (Nat.le_refl _)))
  have HZ2 := Lib.hid hg2.size
  clear hk2 hg2
  go_wp2_with fail
  go_loopw [9, 10] (fun vo vi wr => WalkRel w w.heap.size b w1.heap.size mm s ps tail vo vi wr) (fun _ vi _ => mm - (intOf vi).toNat)
  case atStart => exact ⟨0, rfl, Nat.zero_le _, Nat.zero_le _, HK2.out, OwnR.nil _ _, HB2.out, by have := HZ2.out; omega, by have := HZ2.out; omega, by simp [Value.ownBlock]⟩
  case round =>
    obtain ⟨k, rfl, hk, hkm, hik, hown, hb, hgz, hbz, hne⟩ := hrel
    have HO := Lib.hid hown
    have HB := Lib.hid hb
    have HNE := Lib.hid hne
    have hbs := hb.size
    clear hown hb hne
    rcases hik with ⟨hkl, o', n', c', hI, hsl⟩ | ⟨hke, A', n', c', pc', nx', v', hI⟩
    · have c1 := hI.c1
      have c2 := hI.c2
      have c4 := hI.c4
      have c6 := hI.c6
      have HI := Lib.hid hI
      have HSL := Lib.hid hsl
      have HIA := Lib.hid (show ItAt wr w.heap.size b w1.heap.size s ps tail k (ps[k]).1 (sumL (ps.take k) * s) (sumL (ps.take (k + 1)) * s) from ⟨o', n', c', hI, hsl⟩)
      clear hI hsl
      by_cases hlt : k < mm
      · have hg1 : decide ((k : Int) < (mm : Int)) = true := by simp; omega
        have hg2 : decide (k < mm) = true := by simpa using hlt
        have HL := Lib.hid (show (rangesL s 0 (ps.take k)).length + 1 ≤ 4294967296 by rw [rangesL_len]; have := List.length_take_le k ps; omega)
        generalize hx : (ps[k]).1 = x at *
        generalize hpc : sumL (ps.take k) * s = pc at *
        generalize hnx : sumL (ps.take (k + 1)) * s = nx at *
        have HX := Lib.hid hx
        have HPC := Lib.hid hpc
        have HNX := Lib.hid hnx
        clear hx hpc hnx
        have HNG := Lib.hid (show u9.ownBlock ≠ some w.heap.size from fun e => by have := (HO.out.lt _ e).1; omega)
        go_wp2_with fail
        go_region_held3 (fun W => W.cell? ⟨w.heap.size, 4, none⟩ = some (.int .i32 x) ∧ W.cell? ⟨w.heap.size, 1, none⟩ = some (.int .u32 pc) ∧ W.cell? ⟨w.heap.size, 2, none⟩ = some (.int .u32 nx))
          (first | go_keep | (refine ⟨?_, ?_, ?_⟩ <;> assumption))
          ((refine step_apR (by rfl) (.tmp 29) (.tmp 43) (by rfl) (w.heap.size + 1) u9 (rangesL s 0 (ps.take k)) (by rfl) (by exact HO.out.alloc _) wr.heap.size (x, pc, nx) (by rfl) (by simp [go_sem]) (by simp [go_sem]) (by simp [go_sem]) HL.out (by simp; omega) ?_; intro v3 w3 hown3 hg3 hat3; have q4 : w3.cell? ⟨w.heap.size, 4, none⟩ = some (.int .i32 x) := cell_grown hg3 (by exact (World.cell?_alloc_lt wr _ ⟨w.heap.size, 4, none⟩ hgz).trans HI.out.c4) HNG.out; have q1 : w3.cell? ⟨w.heap.size, 1, none⟩ = some (.int .u32 pc) := cell_grown hg3 (by exact (World.cell?_alloc_lt wr _ ⟨w.heap.size, 1, none⟩ hgz).trans HI.out.c1) HNG.out; have q2 : w3.cell? ⟨w.heap.size, 2, none⟩ = some (.int .u32 nx) := cell_grown hg3 (by exact (World.cell?_alloc_lt wr _ ⟨w.heap.size, 2, none⟩ hgz).trans HI.out.c2) HNG.out))
        have hblk : w3.heap[w.heap.size]? = wr.heap[w.heap.size]? := (hg3.block _ (by simp; omega) (fun e => HNG.out e.symm)).trans (Below.heap_alloc wr _ _ hgz)
        have hcb : ∀ o, w3.cell? ⟨b, o, none⟩ = wr.cell? ⟨b, o, none⟩ := fun o => (World.cell?_of_block (hg3.block b (by simp; omega) (fun e => HNE.out e.symm))).trans (World.cell?_alloc_lt wr _ ⟨b, o, none⟩ hbz)
        have HIA3 := Lib.hid (show ItAt w3 w.heap.size b w1.heap.size s ps tail k (ps[k]).1 (sumL (ps.take k) * s) (sumL (ps.take (k + 1)) * s) by
          rw [HX.out, HPC.out, HNX.out]
          obtain ⟨o2, n2, c2, hI2, hsl2⟩ := HIA.out
          refine ⟨o2, n2, c2, hI2.same hblk, hsl2.len, hsl2.cap, hsl2.mx, hsl2.nil, ?_⟩
          rcases hsl2.rd with h0 | ⟨b', o', e', hb, hc⟩
          · exact .inl h0
          · cases e'
            exact .inr ⟨b, o2, rfl, hb, fun j u hu => (hcb _).trans (hc j u hu)⟩)
        have HO3 := Lib.hid hown3
        have hz3 := hg3.size
        simp at hz3
        have HB3 := Lib.hid (show Below w.heap.size w w3 from (HB.out.alloc hbs _).drew.grown hg3 (by simp; omega) (fun k hk => by have := (HO.out.lt k hk).1; omega))
        have HNE3 := Lib.hid (show v3.ownBlock ≠ some b from own_ne hat3 HNE.out (by simp; omega))
        have HKL := Lib.hid hkl
        clear hblk hcb hown3 hg3 hat3 q1 q2 q4 HIA HI HSL
        go_wp2_with fail
        refine (next_k w.heap.size b w1.heap.size s ps tail k w3 HKL.out HR.out HOk.out (by omega) HIA3.out).mono ?_
        rintro e w4 ⟨rfl, hk4, hg4⟩
        have HK4 := Lib.hid hk4
        have HB4 := Lib.hid (HB3.out.trans (hg4.below (Nat.le_refl _)))
        have HO4 := Lib.hid (HO3.out.kept hg4.grown (.inr (fun e => by have := (HO3.out.lt _ e).1; omega)))
        have hz4 := hg4.size
        have HZ4 := Lib.hid hz4
        clear hk4 hg4 hz4
        go_wp2
        go_roundw
        case rel =>
          refine ⟨k + 1, by go_num, hkl, by omega, HK4.out, ?_, HB4.out, by have := HZ4.out; omega, by have := HZ4.out; omega, HNE3.out⟩
          rw [List.take_succ_eq_append_getElem HKL.out, rangesL_snoc, HX.out, Int.zero_add, HPC.out]
          have h := HNX.out
          rw [List.take_succ_eq_append_getElem HKL.out, sumL_snoc, Int.add_mul, HPC.out] at h
          rw [h]
          exact HO4.out
        case measure => simp [intOf]; omega
      · obtain rfl : k = mm := by omega
        have hd : decide (ps.length ≤ k) = false := by simp; omega
        have HD := Lib.hid hd
        clear hd
        go_wp2_with fail
        go_quiet (fail)
        go_wp2
        go_ret2
        exact ⟨u9, by rw [HD.out]; rfl, World.ownsRow.mono HO.out (Nat.le_succ _), below_drewN HB.out _⟩
    · have e6 := hI.c6
      have hd : decide (ps.length ≤ mm) = true := by simp; omega
      have HD := Lib.hid hd
      have hf : rangesL s 0 (ps.take mm) = rangesL s 0 (ps.take k) := by rw [hke, List.take_length, List.take_of_length_le (by omega)]
      have HF := Lib.hid hf
      clear hd hf hI hke
      by_cases hlt : k < mm
      · have hg1 : decide ((k : Int) < (mm : Int)) = true := by simp; omega
        have hg2 : decide (k < mm) = true := by simpa using hlt
        go_wp2_with fail
        go_quiet (fail)
        go_wp2
        go_ret2
        exact ⟨u9, by rw [HD.out]; rfl, by rw [HF.out]; exact World.ownsRow.mono HO.out (Nat.le_succ _), below_drewN HB.out _⟩
      · go_wp2_with fail
        go_quiet (fail)
        go_wp2
        go_ret2
        exact ⟨u9, by rw [HD.out]; rfl, by rw [HF.out]; exact World.ownsRow.mono HO.out (Nat.le_succ _), below_drewN HB.out _⟩
end Go.Proofs.Ytgpmnpimdbejnaa
