/- The contracts of ZZStep and of the thin function Step. -/
import Derived.Test.YtmnjcngjhpdmeaaStep
namespace Go.Proofs.Ytmnjcngjhpdmeaa
open Go.RowKit
set_option linter.unusedVariables false
attribute [local go_sem ↓] Go.wp_at_zero Go.wp_at_succ

theorem size_alloc (w : World) (o : Obj) : (w.alloc o).heap.size = w.heap.size + 1 := by simp

/-- The world in which ZZStep calls step. -/
def World4 (w : World) (A : Option Addr) (n c : Nat) (pc val q : Int) (v : Value) : World :=
  (((w.alloc (.cells #[.slice A n c] 23)).alloc (.cells #[.int .u64 pc] 31)).alloc (.cells #[.int .i32 val] 21)).alloc (.cells #[.int .u32 q, v] 59)

section
variable (w : World) (A : Option Addr) (n c : Nat) (pc val q : Int) (v : Value)
theorem World4.size : (World4 w A n c pc val q v).heap.size = w.heap.size + 4 := by simp [World4]
theorem World4.below : Below w.heap.size w (World4 w A n c pc val q v) := ((((Below.refl _ _).alloc (Nat.le_refl _) _).alloc (by simp) _).alloc (by simp; omega) _).alloc (by simp; omega) _
theorem World4.boxP : Box (World4 w A n c pc val q v) w.heap.size 23 (.slice A n c) := (((Box.new w _ _).alloc _).alloc _).alloc _
theorem World4.boxC : Box (World4 w A n c pc val q v) (w.heap.size + 1) 31 (.int .u64 pc) := ((Box.new_at _ _ _ _ (by simp)).alloc _).alloc _
theorem World4.boxV : Box (World4 w A n c pc val q v) (w.heap.size + 1 + 1) 21 (.int .i32 val) := (Box.new_at _ _ _ _ (by simp)).alloc _
theorem World4.cellQ : (World4 w A n c pc val q v).cell? ⟨w.heap.size + 1 + 1 + 1, 0, none⟩ = some (.int .u32 q) := by
  have h := cell_of_row (World4 w A n c pc val q v) (w.heap.size + 1 + 1 + 1) 0 #[.int .u32 q, v] 59 (0, 0) (by
    have h := heap_alloc_new (((w.alloc (.cells #[.slice A n c] 23)).alloc (.cells #[.int .u64 pc] 31)).alloc (.cells #[.int .i32 val] 21)) (.cells #[.int .u32 q, v] 59)
    rw [size_alloc, size_alloc, size_alloc] at h
    exact h)
  exact h
end

/-- What ZZStep tells. -/
def ZStep (w : World) (B : Nat) (pc val : Int) (ok : Bool) (rest : List UInt8) (e : Ending) (w' : World) : Prop :=
  ∃ A n c, e = .returned (.tuple #[.slice A n c, .int .u64 pc, .int .i32 val, .bool ok]) ∧ Sl w' B A n c rest ∧ Below w.heap.size w w'

theorem zstep_any (q pc val d long m : Int) (first : Bool) (A : Option Addr) (n c B : Nat) (rest : List UInt8) (w : World) (hs : Hid (Sl w B A n c (Lib.uvarint (Lib.zigzag d) ++ (Lib.uvarint long.toNat ++ rest)))) (hB : B ≤ w.heap.size)
    (i0 : -2147483648 ≤ d) (i1 : d ≤ 2147483647) (l0 : 0 ≤ long) (l1 : long < 4294967296) (hf : Hid (d ≠ 0 ∨ first = true)) (hm : Hid (long * q % 4294967296 = m)) (p0 : 0 ≤ pc) (p1 : pc + m ≤ 18446744073709551615) :
    Calls Try.prog 24 #[.int .u32 q, .slice A n c, .int .u64 pc, .int .i32 val, .bool first] w (ZStep w B (pc + m) (wrap32 (val + d)) true rest) := by
  have hW := World4.below w A n c pc val q (.slice none 0 0)
  have H := Lib.hid (step_any (w.heap.size + 1 + 1 + 1) w.heap.size (w.heap.size + 1) (w.heap.size + 1 + 1) n c B q pc val d long m first A rest _ (World4.cellQ w A n c pc val q (.slice none 0 0)) (World4.boxP ..) (World4.boxC ..) (World4.boxV ..) (hs.out.below (hW.mono hB))
    (by omega) (by omega) (by omega) (by omega) hB (by omega) (by omega) i0 i1 l0 l1 hf.out hm.out p0 p1)
  have HW := Lib.hid hW
  clear hW
  go_enter Try.func24, Try.ntmps24
  go_wp2_with fail
  refine H.out.mono ?_
  rintro e w1 ⟨rfl, A1, n1, c1, hp1, hc1, hv1, hs1, hk1⟩
  have g1 := hp1.cell
  have g2 := hc1.cell
  have g3 := hv1.cell
  have HS1 := Lib.hid hs1
  have HB := Lib.hid (HW.out.trans (hk1.below (Nat.le_refl _) (by omega) (by omega)))
  clear H HW hp1 hc1 hv1 hs1 hk1
  generalize pc + m = pc', wrap32 (val + d) = val' at *
  go_wp2_with fail
  go_quiet (fail)
  go_wp2
  refine bodyPost_ret (v := .tuple #[.slice A1 n1 c1, .int .u64 pc', .int .i32 val', .bool true]) (by simp [results, Try.results24, go_sem]) rfl ?_
  exact ⟨A1, n1, c1, rfl, HS1.out.drewN _, below_drewN HB.out _⟩

theorem zstep_end (q pc val : Int) (A : Option Addr) (n c B : Nat) (rest : List UInt8) (w : World) (hs : Hid (Sl w B A n c (0 :: rest))) (hB : B ≤ w.heap.size) :
    Calls Try.prog 24 #[.int .u32 q, .slice A n c, .int .u64 pc, .int .i32 val, .bool false] w (ZStep w B pc val false rest) := by
  have hW := World4.below w A n c pc val q (.slice none 0 0)
  have H := Lib.hid (step_end (.pointer (some ⟨w.heap.size + 1 + 1 + 1, 0, none⟩)) (.pointer (some ⟨w.heap.size + 1 + 1, 0, none⟩)) (.pointer (some ⟨w.heap.size + 1, 0, none⟩)) w.heap.size n c B A rest _ (Lib.hid (World4.boxP w A n c pc val q (.slice none 0 0))) (Lib.hid (hs.out.below (hW.mono hB))))
  have HC := Lib.hid (World4.boxC w A n c pc val q (.slice none 0 0))
  have HV := Lib.hid (World4.boxV w A n c pc val q (.slice none 0 0))
  have HP := Lib.hid (World4.boxP w A n c pc val q (.slice none 0 0))
  have HW := Lib.hid hW
  clear hW
  go_enter Try.func24, Try.ntmps24
  go_wp2_with fail
  refine H.out.mono ?_
  rintro e w1 ⟨rfl, A1, n1, c1, hw1, hs1⟩
  have g1 : w1.cell? ⟨w.heap.size, 0, none⟩ = some (.slice A1 n1 c1) := by rw [hw1]; exact (HP.out.set _).cell
  have g2 : w1.cell? ⟨w.heap.size + 1, 0, none⟩ = some (.int .u64 pc) := by rw [hw1]; exact (HC.out.far (by simp) _).cell
  have g3 : w1.cell? ⟨w.heap.size + 1 + 1, 0, none⟩ = some (.int .i32 val) := by rw [hw1]; exact (HV.out.far (by simp; omega) _).cell
  have HS1 := Lib.hid (show Sl w1 B A1 n1 c1 rest by rw [hw1]; exact hs1.set hB _)
  have HB := Lib.hid (show Below w.heap.size w w1 by rw [hw1]; exact HW.out.setCell (Nat.le_refl _) _)
  clear H HW HC HV HP hw1 hs1
  go_wp2_with fail
  go_quiet (fail)
  go_wp2
  refine bodyPost_ret (v := .tuple #[.slice A1 n1 c1, .int .u64 pc, .int .i32 val, .bool false]) (by simp [results, Try.results24, go_sem]) rfl ?_
  exact ⟨A1, n1, c1, rfl, HS1.out.drewN _, below_drewN HB.out _⟩

/-- What the thin function Step tells. -/
def IStep (w : World) (pc val : Int) (ok : Bool) (rest : List UInt8) (e : Ending) (w' : World) : Prop :=
  ∃ A n c, e = .returned (.tuple #[.agg #[.int .u64 pc, .int .i32 val], .slice A n c, .bool ok]) ∧ Sl w' w'.heap.size A n c rest ∧ Below w.heap.size w w'

def IStepF (w : World) (pc val : Int) (ok : Bool) (rest : List UInt8) (e : Ending) (w' : World) : Prop :=
  ∃ A n c, e = .returned (.tuple #[.agg #[.int .u64 pc, .int .i32 val], .slice A n c, .bool ok]) ∧ Sl w' w'.heap.size A n c rest ∧ Below w.heap.size w w' ∧ Fresh w.heap.size A rest

theorem istepF_of (q pc val pc' val' : Int) (first ok : Bool) (A : Option Addr) (n c B : Nat) (l rest : List UInt8) (w : World) (hs : Hid (Sl w B A n c l)) (hB : B ≤ w.heap.size) (hl : Hid (l.length ≤ 70368744177664)) (hr : Hid (rest.length ≤ 70368744177664))
    (H : Hid (∀ (A : Option Addr) (n c B : Nat) (w : World), Sl w B A n c l → B ≤ w.heap.size → Calls Try.prog 24 #[.int .u32 q, .slice A n c, .int .u64 pc, .int .i32 val, .bool first] w (ZStep w B pc' val' ok rest))) :
    Calls Try.prog 16 #[.int .u32 q, .slice A n c, .agg #[.int .u64 pc, .int .i32 val], .bool first] w (IStepF w pc' val' ok rest) := by
  go_enter Try.func16, Try.ntmps16
  go_wp2_with fail
  go_region_held3 (fun W => W.cell? ⟨w.heap.size, 0, none⟩ = some (.int .u64 pc) ∧ W.cell? ⟨w.heap.size, 1, none⟩ = some (.int .i32 val)) (go_keep)
    (first
      | (go_at_call 23; refine (clone8_any A n c B l _ (by exact ((hs.out.alloc hB _).alloc (by simp; omega) _).drew) (by simp; omega) hl.out).mono ?_; rintro e w1 ⟨A1, n1, c1, rfl, hs1, hb1⟩; have HS1 := Lib.hid hs1; have k1 : w1.cell? ⟨w.heap.size, 0, none⟩ = some (.int .u64 pc) := (by rw [hb1.cell (by simp; omega)]; simp [go_sem]); have k2 : w1.cell? ⟨w.heap.size, 1, none⟩ = some (.int .i32 val) := (by rw [hb1.cell (by simp; omega)]; simp [go_sem]); have HB1 := Lib.hid hb1; clear hs1 hb1)
      | (go_at_call 24; refine (H.out A1 n1 c1 w1.heap.size _ (by exact HS1.out) (by exact Nat.le_refl _)).mono ?_; rintro e w2 ⟨A2, n2, c2, rfl, hs2, hb2⟩; have HS2 := Lib.hid hs2; have k3 : w2.cell? ⟨w.heap.size, 0, none⟩ = some (.int .u64 pc) := (by rw [hb2.cell (by have := HB1.out.size; simp at this; simp; omega)]; exact k1); have k4 : w2.cell? ⟨w.heap.size, 1, none⟩ = some (.int .i32 val) := (by rw [hb2.cell (by have := HB1.out.size; simp at this; simp; omega)]; exact k2); have HB2 := Lib.hid hb2; clear hs2 hb2))
  have hz1 := HB1.out.size
  have hz2 := HB2.out.size
  simp at hz1
  have hblk : w2.heap[w.heap.size + 1]? = some (.cells #[.int .u64 0, .int .i32 0] 33 (0, 0)) := by
    rw [HB2.out.block _ (by omega), HB1.out.block _ (by simp)]
    have h := heap_alloc_new (w.alloc (.cells #[.int .u64 pc, .int .i32 val] 33)) (.cells #[.int .u64 0, .int .i32 0] 33)
    rw [size_alloc] at h
    exact h
  have HK := Lib.hid hblk
  have hz3 : w.heap.size + 1 < w2.heap.size := by omega
  clear hblk k1 k2 k3 k4
  go_wp2_with fail
  refine (clone8_fresh A2 n2 c2 w1.heap.size rest w2 HS2.out HB2.out.size hr.out).mono ?_
  rintro e w3 ⟨A3, n3, c3, rfl, hs3, hb3, hf3⟩
  have HF3 := Lib.hid hf3
  have hblk3 : w3.heap[w.heap.size + 1]? = some (.cells #[.int .u64 0, .int .i32 0] 33 (0, 0)) := (hb3.block _ hz3).trans HK.out
  have q1 : w3.cell? ⟨w.heap.size + 1, 0, none⟩ = some (.int .u64 0) := cell_of_row w3 _ 0 _ _ _ hblk3
  have q2 : w3.cell? ⟨w.heap.size + 1, 1, none⟩ = some (.int .i32 0) := cell_of_row w3 _ 1 _ _ _ hblk3
  have q3 : w3.frozen? ⟨w.heap.size + 1, 0, none⟩ = false := by simp [World.frozen?, hblk3]
  have q4 : w3.frozen? ⟨w.heap.size + 1, 1, none⟩ = false := by simp [World.frozen?, hblk3]
  have HS3 := Lib.hid hs3
  have HB3 := Lib.hid hb3
  clear hs3 hb3 hblk3 hf3
  go_wp2
  refine bodyPost_ret (v := .tuple #[.agg #[.int .u64 pc', .int .i32 val'], .slice A3 n3 c3, .bool ok]) (by simp [results, Try.results16, go_sem, q1, q2]) rfl ?_
  refine ⟨A3, n3, c3, rfl, ?_, ?_, ?_⟩
  · have h := (HS3.out.set_fresh (p := ⟨w.heap.size + 1, 0, none⟩) HF3.out (by simpa using hz3) (.int .u64 pc')).set_fresh (p := ⟨w.heap.size + 1, 1, none⟩) HF3.out (by simpa using hz3) (.int .i32 val')
    simpa [World.setCell] using h
  · have h0 : Below w.heap.size w w1 := (((Below.refl _ _).alloc (Nat.le_refl _) _).alloc (by simp) _).drew.trans (HB1.out.mono (by simp; omega))
    exact (((h0.trans (HB2.out.mono (by omega))).trans (HB3.out.mono (by omega))).setCell (by simp) _).setCell (by simp) _
  · rcases HF3.out with h | ⟨a, h1, h2⟩
    · exact .inl h
    · exact .inr ⟨a, h1, by omega⟩
theorem istep_of (q pc val pc' val' : Int) (first ok : Bool) (A : Option Addr) (n c B : Nat) (l rest : List UInt8) (w : World) (hs : Hid (Sl w B A n c l)) (hB : B ≤ w.heap.size) (hl : Hid (l.length ≤ 70368744177664)) (hr : Hid (rest.length ≤ 70368744177664))
    (H : Hid (∀ (A : Option Addr) (n c B : Nat) (w : World), Sl w B A n c l → B ≤ w.heap.size → Calls Try.prog 24 #[.int .u32 q, .slice A n c, .int .u64 pc, .int .i32 val, .bool first] w (ZStep w B pc' val' ok rest))) :
    Calls Try.prog 16 #[.int .u32 q, .slice A n c, .agg #[.int .u64 pc, .int .i32 val], .bool first] w (IStep w pc' val' ok rest) :=
  (istepF_of q pc val pc' val' first ok A n c B l rest w hs hB hl hr H).mono fun _ _ ⟨A, n, c, h1, h2, h3, _⟩ => ⟨A, n, c, h1, h2, h3⟩
end Go.Proofs.Ytmnjcngjhpdmeaa
