/- The contract of the thin function ValueAt, and the walk of the law FnValueBehind. -/
import Derived.Test.YtmadidaiaggheaaVal
import Derived.Test.YtmadidaiaggheaaTab
import Derived.Test.YtmadidaiaggheaaLaw
namespace Go.Proofs.Ytmadidaiaggheaa
open Go.RowKit
set_option linter.unusedVariables false

theorem zvalue_any (n c : Nat) (A : Option Addr) (s t entry tg : Int) (ps : List (Int × Int)) (w : World) (hs : Hid (Sl w w.heap.size A n c (tableB (-1) ps)))
    (HR : Hid (RightP ps s)) (HOk : Hid (∀ p ∈ ps, PieceOk p)) (s0 : 0 ≤ s) (s1 : s < 4294967296) (e0 : 0 ≤ entry) (e1 : entry < 4611686018427387904) (t0 : 0 ≤ t) (t1 : t < 4611686018427387904) (HT : Hid (tg = entry + t)) :
    Calls Try.prog 27 #[.slice A n c, .int .u32 s, .int .u32 0, .int .u64 entry, .int .u64 tg] w (VPost w (valAt s t ps)) := by
  have hl := hs.out.len
  have h1 : 1 ≤ n := by simp [tableB] at hl; omega
  have hcap := hs.out.cap
  have hmx := hs.out.mx
  have HS := Lib.hid ((hs.out.alloc (Nat.le_refl _) (.cells #[.int .u32 s, .slice A n c] 80)).more (Nat.le_succ _))
  have g1 : (w.alloc (.cells #[.int .u32 s, .slice A n c] 80)).cell? ⟨w.heap.size, 0, none⟩ = some (.int .u32 s) := cell_of_row _ _ _ _ _ (0, 0) (heap_alloc_new w _)
  have g2 : (w.alloc (.cells #[.int .u32 s, .slice A n c] 80)).cell? ⟨w.heap.size, 1, none⟩ = some (.slice A n c) := cell_of_row _ _ _ _ _ (0, 0) (heap_alloc_new w _)
  have H := Lib.hid (pcvalue_any w.heap.size n c A s t entry tg ps _ (by simp) g1 g2 (Lib.hid (by simpa using HS.out)) (by omega) hmx hcap HR HOk s0 s1 e0 e1 t0 t1 HT)
  clear hl g1 g2
  go_enter Try.func27, Try.ntmps27
  go_wp2_with fail
  refine H.out.mono ?_
  rintro e w1 ⟨rfl, hb⟩
  have HB := Lib.hid (((Below.refl w.heap.size w).alloc (Nat.le_refl _) _).trans (hb.mono (by simp)))
  generalize valAt s t ps = r at *
  clear H hb
  go_wp2
  go_ret
  exact ⟨rfl, HB.out⟩
theorem valueAt_any (n c B : Nat) (A : Option Addr) (s t entry tg : Int) (ps : List (Int × Int)) (w : World) (hs : Hid (Sl w B A n c (tableB (-1) ps))) (hB : B ≤ w.heap.size) (hlen : Hid (ps.length ≤ 2147483647))
    (HR : Hid (RightP ps s)) (HOk : Hid (∀ p ∈ ps, PieceOk p)) (s0 : 0 ≤ s) (s1 : s < 4294967296) (e0 : 0 ≤ entry) (e1 : entry < 4611686018427387904) (t0 : 0 ≤ t) (t1 : t < 4611686018427387904) (HT : Hid (tg = entry + t)) :
    Calls Try.prog 19 #[.slice A n c, .int .u32 s, .int .u32 0, .int .u64 entry, .int .u64 tg] w (VPost w (valAt s t ps)) := by
  have HL := Lib.hid (show (tableB (-1) ps).length ≤ 70368744177664 by have := tableB_len (-1) ps HOk.out; have := hlen.out; omega)
  go_enter Try.func19, Try.ntmps19
  go_wp2_with fail
  refine (clone8_any A n c B _ w hs.out hB HL.out).mono ?_
  rintro e w1 ⟨A1, n1, c1, rfl, hs1, hb1⟩
  have HS1 := Lib.hid hs1
  have HB1 := Lib.hid hb1
  clear hs1 hb1
  go_wp2_with fail
  refine (zvalue_any n1 c1 A1 s t entry tg ps w1 HS1 HR HOk s0 s1 e0 e1 t0 t1 HT).mono ?_
  rintro e w2 ⟨rfl, hb⟩
  have HB2 := Lib.hid (HB1.out.trans (hb.mono HB1.out.size))
  generalize valAt s t ps = r at *
  clear hb
  go_wp2
  go_ret
  exact ⟨rfl, HB2.out⟩

end Go.Proofs.Ytmadidaiaggheaa
