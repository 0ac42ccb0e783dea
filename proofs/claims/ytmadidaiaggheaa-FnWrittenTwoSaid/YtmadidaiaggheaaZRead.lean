/- The contract of ZZRead. -/
import Derived.Test.YtmadidaiaggheaaNums
namespace Go.Proofs.Ytmadidaiaggheaa
open Go.RowKit
set_option linter.unusedVariables false
attribute [local go_sem ↓] Go.wp_at_zero Go.wp_at_succ

structure Lt3 (w : World) (a b c : Value) : Prop where
  la : ∀ g, a.ownBlock = some g → g < w.heap.size
  lb : ∀ g, b.ownBlock = some g → g < w.heap.size
  lc : ∀ g, c.ownBlock = some g → g < w.heap.size
theorem Rows3.lt3 {w : World} {base : Nat} {a b c : Value} {xs ys zs : List Int} (h : Rows3 w base a b c xs ys zs) : Lt3 w a b c := ⟨fun g e => (h.ra.lt g e).2, fun g e => (h.rb.lt g e).2, fun g e => (h.rc.lt g e).2⟩
theorem Lt3.alloc {w : World} {a b c : Value} (h : Lt3 w a b c) (o : Obj) : Lt3 (w.alloc o) a b c := ⟨fun g e => by have := h.la g e; simp; omega, fun g e => by have := h.lb g e; simp; omega, fun g e => by have := h.lc g e; simp; omega⟩
theorem Lt3.drew {w : World} {a b c : Value} (h : Lt3 w a b c) : Lt3 w.drew a b c := ⟨h.la, h.lb, h.lc⟩
theorem Lone3.new_at {w : World} {g : Nat} {a b c : Value} (h : Lt3 w a b c) (hg : w.heap.size = g) (v : Value) (t : TypeId) : Lone3 (w.alloc (.cells #[v] t)) a b c g v := by
  subst hg
  exact ⟨cell_of_row _ _ 0 _ _ (0, 0) (heap_alloc_new w _), by simp, fun e => by have := h.la _ e; omega, fun e => by have := h.lb _ e; omega, fun e => by have := h.lc _ e; omega⟩
theorem below_al {B : Nat} {a w : World} (h : Below B a w) (hB : B ≤ a.heap.size) (o : Obj) : Below B a (w.alloc o) := h.alloc (Nat.le_trans hB h.size) o

theorem keep3 {wr W : World} {g n c : Nat} {A : Option Addr} {pc nx sc x : Int} {st dn : Bool} (hI : It wr g A n c pc nx sc x st dn) (h : Below (g + 1) wr W) : W.cell? ⟨g, 4, none⟩ = some (.int .i32 x) ∧ W.cell? ⟨g, 1, none⟩ = some (.int .u32 pc) ∧ W.cell? ⟨g, 2, none⟩ = some (.int .u32 nx) :=
  ⟨(h.cell (p := ⟨g, 4, none⟩) (Nat.lt_succ_self g)).trans hI.c4, (h.cell (p := ⟨g, 1, none⟩) (Nat.lt_succ_self g)).trans hI.c1, (h.cell (p := ⟨g, 2, none⟩) (Nat.lt_succ_self g)).trans hI.c2⟩
def vlen : Value → Nat
  | .slice _ n _ => n
  | _ => 0
theorem OwnN.vlen {w : World} {base : Nat} {e : TypeId} {k : IntKind} {v : Value} {zs : List Int} (h : OwnN w base e k v zs) : vlen v = zs.length := by
  rcases h.2 with ⟨rfl, hn⟩ | ⟨g, cap, cur, rfl, _⟩
  · exact hn.symm
  · rfl
def fst3 (s : Int) (ps : List (Int × Int)) (k : Nat) : List Int := (rangesL s 0 (ps.take k)).map (·.1)
def snd3 (s : Int) (ps : List (Int × Int)) (k : Nat) : List Int := (rangesL s 0 (ps.take k)).map (·.2.1)
def thd3 (s : Int) (ps : List (Int × Int)) (k : Nat) : List Int := (rangesL s 0 (ps.take k)).map (·.2.2)
theorem len3 (s : Int) (ps : List (Int × Int)) (k : Nat) : (fst3 s ps k).length ≤ k ∧ (snd3 s ps k).length ≤ k ∧ (thd3 s ps k).length ≤ k := by
  have := List.length_take_le k ps
  simp only [fst3, snd3, thd3, List.length_map, rangesL_len]
  omega

def ReadRel (w : World) (b B : Nat) (s : Int) (ps : List (Int × Int)) (tail : List UInt8) (va vb vc : Value) (wr : World) : Prop :=
  ∃ k : Nat, k ≤ ps.length ∧ ItK wr w.heap.size b B s ps tail k ∧ Rows3 wr (w.heap.size + 1) va vb vc (fst3 s ps k) (snd3 s ps k) (thd3 s ps k) ∧ Below w.heap.size w wr ∧ w.heap.size + 1 ≤ wr.heap.size

theorem Rows3.keptG {w w' : World} {base g : Nat} {a b c : Value} {xs ys zs : List Int} (h : Rows3 w base a b c xs ys zs) (hk : KeptG w w' g) (hg : g < base) : Rows3 w' base a b c xs ys zs :=
  ⟨h.ra.kept hk.grown (.inr (fun e => by have := (h.ra.lt _ e).1; omega)), h.rb.kept hk.grown (.inr (fun e => by have := (h.rb.lt _ e).1; omega)), h.rc.kept hk.grown (.inr (fun e => by have := (h.rc.lt _ e).1; omega)), h.ab, h.ac, h.bc⟩
theorem next3 (s : Int) (ps : List (Int × Int)) (k : Nat) (hk : k < ps.length) : fst3 s ps (k + 1) = fst3 s ps k ++ [(ps[k]).1] ∧ snd3 s ps (k + 1) = snd3 s ps k ++ [sumL (ps.take k) * s] ∧ thd3 s ps (k + 1) = thd3 s ps k ++ [sumL (ps.take (k + 1)) * s] := by
  have ht := List.take_succ_eq_append_getElem hk
  simp only [fst3, snd3, thd3]
  rw [ht, rangesL_snoc, sumL_snoc, Int.add_mul]
  simp
theorem ItK.below {w w' : World} {g b B : Nat} {s : Int} {ps : List (Int × Int)} {tail : List UInt8} {k : Nat} (h : ItK w g b B s ps tail k) (hb : Below (g + 1) w w') (hbg : b < g + 1) : ItK w' g b B s ps tail k :=
  h.same (hb.block g (Nat.lt_succ_self g)) (fun o => hb.cell (p := ⟨b, o, none⟩) hbg)
def ReadPost (w : World) (s : Int) (ps : List (Int × Int)) (e : Ending) (w' : World) : Prop :=
  ∃ va vb vc, e = .returned (.tuple #[va, vb, vc]) ∧ Rows3 w' w.heap.size va vb vc (fst3 s ps ps.length) (snd3 s ps ps.length) (thd3 s ps ps.length) ∧ Below w.heap.size w w'
theorem Rows3.mono {w : World} {base base' : Nat} {a b c : Value} {xs ys zs : List Int} (h : Rows3 w base a b c xs ys zs) (hb : base' ≤ base) : Rows3 w base' a b c xs ys zs := ⟨World.ownsRow.mono h.ra hb, World.ownsRow.mono h.rb hb, World.ownsRow.mono h.rc hb, h.ab, h.ac, h.bc⟩
set_option maxHeartbeats 4000000 in
theorem zread_any (b o n c : Nat) (s : Int) (ps : List (Int × Int)) (tail : List UInt8) (w : World) (HR : Hid (RightP ps s)) (HOk : Hid (∀ p ∈ ps, PieceOk p)) (hs : Hid (Sl w w.heap.size (some ⟨b, o, none⟩) n c (leftB (-1) ps tail))) (hb : b < w.heap.size) (hpl : ps.length ≤ 2147483647) :
    Calls Try.prog 20 #[.slice (some ⟨b, o, none⟩) n c, .int .u32 s] w (ReadPost w s ps) := by
  go_enter Try.func20, Try.ntmps20
  go_wp2_with fail
  refine (newIter_any s w).mono ?_
  rintro e w0 ⟨rfl, hw0⟩
  have hI0 : It w0 w.heap.size none 0 0 0 0 s 0 false false := by rw [hw0]; exact heap_alloc_new w _
  have hb0 : Below w.heap.size w w0 := by rw [hw0]; exact (Below.refl _ _).alloc (Nat.le_refl _) _
  have hz0 : w0.heap.size = w.heap.size + 1 := by rw [hw0]; simp
  have HI0 := Lib.hid hI0
  have HB0 := Lib.hid hb0
  have HZ0 := Lib.hid hz0
  have HS0 := Lib.hid (hs.out.below hb0)
  clear hw0 hI0 hb0 hz0
  go_wp2_with fail
  refine (init_k w.heap.size b o n c w.heap.size s ps tail none 0 0 0 0 0 false false w0 HR.out HOk.out (by omega) HI0.out HS0.out).mono ?_
  rintro e w2 ⟨rfl, hk2, hg2⟩
  have HK2 := Lib.hid hk2
  have HB2 := Lib.hid (HB0.out.trans (hg2.below (Nat.le_refl _)))
  have HZ2 := Lib.hid (hg2.size.trans HZ0.out)
  clear hk2 hg2
  go_wp2_with fail
  go_loopw [4, 5, 6] (fun va vb vc wr => ReadRel w b w.heap.size s ps tail va vb vc wr) (fun va _ _ _ => 4294967296 - vlen va)
  case atStart => exact ⟨0, Nat.zero_le _, HK2.out, ⟨OwnN.nil _ _ _ _, OwnN.nil _ _ _ _, OwnN.nil _ _ _ _, fun g e => by simp [Value.ownBlock] at e, fun g e => by simp [Value.ownBlock] at e, fun g e => by simp [Value.ownBlock] at e⟩, HB2.out, by have := HZ2.out; omega⟩
  case round =>
    obtain ⟨k, hk, hik, hrows, hbw, hgz⟩ := hrel
    have HR0 := Lib.hid hrows
    have HBW := Lib.hid hbw
    clear hrows hbw
    rcases hik with ⟨hkl, o', n', c', hI, hsl⟩ | ⟨hke, A', n', c', pc', nx', v', hI⟩
    · have c1 := hI.c1
      have c2 := hI.c2
      have c4 := hI.c4
      have c6 := hI.c6
      have HI := Lib.hid hI
      have HIK := Lib.hid (show ItK wr w.heap.size b w.heap.size s ps tail k from .inl ⟨hkl, o', n', c', hI, hsl⟩)
      have HN3 := Lib.hid (next3 s ps k hkl)
      have HKL := Lib.hid hkl
      have HLv := Lib.hid HR0.out.ra.vlen
      obtain ⟨l1, l2, l3⟩ := len3 s ps k
      have HL1 := Lib.hid (show (fst3 s ps k).length + 1 ≤ 4294967296 by omega)
      have HL2 := Lib.hid (show (snd3 s ps k).length + 1 ≤ 4294967296 by omega)
      have HL3 := Lib.hid (show (thd3 s ps k).length + 1 ≤ 4294967296 by omega)
      generalize hx : (ps[k]).1 = x at *
      generalize hpc : sumL (ps.take k) * s = pc at *
      generalize hnx : sumL (ps.take (k + 1)) * s = nx at *
      have HX := Lib.hid hx
      have HPC := Lib.hid hpc
      have HNX := Lib.hid hnx
      clear hx hpc hnx hI hsl l1 l2 l3
      go_wp2_with fail
      go_region_held3 (fun W => W.cell? ⟨w.heap.size, 4, none⟩ = some (.int .i32 x) ∧ W.cell? ⟨w.heap.size, 1, none⟩ = some (.int .u32 pc) ∧ W.cell? ⟨w.heap.size, 2, none⟩ = some (.int .u32 nx))
        ((refine keep3 HI.out ?_; repeat (first | exact HBc.out | exact HBb.out | exact HBa.out | exact Below.refl _ _ | refine below_al ?_ hgz _ | refine Below.drew ?_)))
        (first
          | (refine step_a (by rfl) (.tmp 20) (.tmp 25) (by rfl) (w.heap.size + 1) u4 u5 u6 (fst3 s ps k) (snd3 s ps k) (thd3 s ps k) (by rfl) (by repeat (first | exact HR0.out | refine Rows3.alloc ?_ _ | refine Rows3.drew ?_)) _ x (by rfl) (by repeat (first | (refine Lone3.new_at ?_ ?_ _ _; rotate_left; (focus (simp; done)); (repeat (first | exact HR0.out.lt3 | refine Lt3.alloc ?_ _ | refine Lt3.drew ?_)); done) | refine Lone3.alloc ?_ _ | refine Lone3.drew ?_)) HL1.out (by first | omega | (simp; omega)) ?_
             intro va1 w1 hr1 hl1 hb1
             have HRa := Lib.hid hr1
             have HLa := Lib.hid hl1
             have HBa : Hid (Below (w.heap.size + 1) wr w1) := Lib.hid (Below.trans (by repeat (first | exact Below.refl _ _ | refine below_al ?_ hgz _ | refine Below.drew ?_)) hb1)
             have hza := HBa.out.size
             clear hr1 hl1 hb1)
          | (refine step_b (by rfl) (.tmp 27) (.tmp 32) (by rfl) (w.heap.size + 1) va1 u5 u6 (fst3 s ps k ++ [x]) (snd3 s ps k) (thd3 s ps k) (by rfl) (by repeat (first | exact HRa.out | refine Rows3.alloc ?_ _ | refine Rows3.drew ?_)) _ pc (by rfl) (by repeat (first | (refine Lone3.new_at ?_ ?_ _ _; rotate_left; (focus (simp; done)); (repeat (first | exact HRa.out.lt3 | exact HR0.out.lt3 | refine Lt3.alloc ?_ _ | refine Lt3.drew ?_)); done) | refine Lone3.alloc ?_ _ | refine Lone3.drew ?_ | refine HLa.out _ _ ?_)) HL2.out (by first | omega | (simp; omega)) ?_
             intro vb1 w2 hr1 hl1 hb1
             have HRb := Lib.hid hr1
             have HLb := Lib.hid hl1
             have HBb : Hid (Below (w.heap.size + 1) wr w2) := Lib.hid (Below.trans (by repeat (first | exact HBa.out | refine below_al ?_ hgz _ | refine Below.drew ?_)) hb1)
             have hzb := HBb.out.size
             clear hr1 hl1 hb1)
          | (refine step_c (by rfl) (.tmp 34) (.tmp 39) (by rfl) (w.heap.size + 1) va1 vb1 u6 (fst3 s ps k ++ [x]) (snd3 s ps k ++ [pc]) (thd3 s ps k) (by rfl) (by repeat (first | exact HRb.out | refine Rows3.alloc ?_ _ | refine Rows3.drew ?_)) _ nx (by rfl) (by repeat (first | (refine Lone3.new_at ?_ ?_ _ _; rotate_left; (focus (simp; done)); (repeat (first | exact HRb.out.lt3 | exact HRa.out.lt3 | exact HR0.out.lt3 | refine Lt3.alloc ?_ _ | refine Lt3.drew ?_)); done) | refine Lone3.alloc ?_ _ | refine Lone3.drew ?_ | refine HLb.out _ _ ?_ | refine HLa.out _ _ ?_)) HL3.out (by first | omega | (simp; omega)) ?_
             intro vc1 w3 hr1 hl1 hb1
             have HRc := Lib.hid hr1
             have HLc := Lib.hid hl1
             have HBc : Hid (Below (w.heap.size + 1) wr w3) := Lib.hid (Below.trans (by repeat (first | exact HBb.out | refine below_al ?_ hgz _ | refine Below.drew ?_)) hb1)
             have hzc := HBc.out.size
             clear hr1 hl1 hb1))
      all_goals
        have HIA3 := Lib.hid (show ItAt w3 w.heap.size b w.heap.size s ps tail k (ps[k]).1 (sumL (ps.take k) * s) (sumL (ps.take (k + 1)) * s) by
          have h0 : ItK w3 w.heap.size b w.heap.size s ps tail k := ItK.below HIK.out HBc.out (by omega)
          rcases h0 with ⟨_, h⟩ | ⟨e, _⟩
          · exact h
          · have := HKL.out; omega)
        clear HIK HI
        go_wp2_with fail
        refine (next_k w.heap.size b w.heap.size s ps tail k w3 HKL.out HR.out HOk.out (by omega) HIA3.out).mono ?_
        rintro e w4 ⟨rfl, hk4, hg4⟩
        have HK4 := Lib.hid hk4
        have HR4 := Lib.hid (HRc.out.keptG hg4 (Nat.lt_succ_self _))
        have HB4 := Lib.hid ((HBW.out.trans (HBc.out.mono (Nat.le_succ _))).trans (hg4.below (Nat.le_refl _)))
        have HZ4 := Lib.hid hg4.size
        clear hk4 hg4
        go_wp2
        go_roundw
        case rel =>
          obtain ⟨t1, t2, t3⟩ := HN3.out
          exact ⟨k + 1, hkl, HK4.out, by rw [t1, t2, t3]; exact HR4.out, HB4.out, by have := HZ4.out; omega⟩
        case measure =>
          have h1 := HR4.out.ra.vlen
          have h2 := HLv.out
          have h3 := HL1.out
          rw [List.length_append] at h1
          simp at h1
          show 4294967296 - vlen va1 < 4294967296 - vlen u4
          omega
    · have c6 := hI.c6
      have HKE := Lib.hid hke
      clear hI hke
      go_wp2
      go_ret3
      refine ⟨u4, u5, u6, rfl, ?_, HBW.out⟩
      rw [← HKE.out]
      exact HR0.out.mono (Nat.le_succ _)
end Go.Proofs.Ytmadidaiaggheaa
