/- The walks of the laws FnStep, FnStepFirst, FnStepEnd. -/
import Derived.Test.YtmnjcngjhpdmeaaZStep
import Derived.Test.YtmnjcngjhpdmeaaLaw
namespace Go.Proofs.Ytmnjcngjhpdmeaa
open Go.RowKit
set_option linter.unusedVariables false

section
variable (q d long pc val m : Int) (A : Option Addr) (n c : Nat) (l : List UInt8) (first : Bool) (w : World)
theorem fnStep_main (hs : Hid (Sl w w.heap.size A n c l)) (hn : n ≤ 2147483647) (i0 : -2147483648 ≤ d) (i1 : d ≤ 2147483647) (l0 : 0 ≤ long) (l1 : long < 4294967296) (q0 : 0 ≤ q) (q1 : q < 4294967296) (p0 : 0 ≤ pc) (p1 : pc < 4611686018427387904)
    (e1 : (d == 0) = false) (e2 : (q == 0) = false) (m0 : 0 ≤ m) (m1 : m < 4294967296) (hm1 : IntKind.u64.wrap (q * long) = m) (hm2 : IntKind.u64.wrap (long * q) = m) (hm3 : Hid (long * q % 4294967296 = m)) :
    Calls Try.prog 6 #[.int .u32 q, .int .i32 d, .int .u32 long, .slice A n c, .agg #[.int .u64 pc, .int .i32 val], .bool first] w (Lawful w) := by
  have HL := Lib.hid (show l.length ≤ 2147483647 by have := hs.out.len; omega)
  have hzl : Lib.zigzag d < 4294967296 := by unfold Lib.zigzag; split <;> omega
  have HZ := Lib.hid hzl
  have HD := Lib.hid (show d ≠ 0 ∨ first = true from .inl (by simpa using e1))
  have hla := uv_len (Lib.zigzag d) hzl
  have hlb := uv_len long.toNat (by omega)
  have HLa := Lib.hid hla
  have HLb := Lib.hid hlb
  clear hzl hla hlb
  go_enter Try.func6, Try.ntmps6
  go_wp2_with fail
  refine (zigzag_any d i0 i1 _).mono ?_
  rintro e w' ⟨rfl, rfl⟩
  go_wp2_with fail
  refine (uvarint_any _ _ rfl HZ.out _).mono ?_
  rintro e w1 ⟨v1, rfl, hown1, hb1⟩
  have hz1 := hb1.size
  simp at hz1
  have HO1 := Lib.hid (show Own8 w1 (w.heap.size + 1) v1 _ by simpa using hown1)
  have HB1 := Lib.hid (show Below (w.heap.size + 1) (w.alloc (.cells #[.int .u64 pc, .int .i32 val] 33)) w1 by simpa using hb1)
  clear hown1 hb1
  go_wp2_with fail
  refine (uvarint_int long l0 l1 _).mono ?_
  rintro e w2 ⟨v2, rfl, hown2, hb2⟩
  have hz2 := hb2.size
  obtain ⟨A2, n2, c2, rfl, hs2⟩ := hown2.sl
  have HO2 := Lib.hid (HO1.out.below hb2)
  have HS2 := Lib.hid hs2
  have HB2 := Lib.hid (HB1.out.trans (hb2.mono (by omega)))
  have HLc := Lib.hid (show (Lib.uvarint (Lib.zigzag d)).length + (Lib.uvarint long.toNat).length ≤ 140737488355328 by have := HLa.out; have := HLb.out; omega)
  have HLd := Lib.hid (show (Lib.uvarint (Lib.zigzag d) ++ Lib.uvarint long.toNat).length + l.length ≤ 140737488355328 by have := HLa.out; have := HLb.out; have := HL.out; rw [List.length_append]; omega)
  have HS0 := Lib.hid ((hs.out.alloc (Nat.le_refl _) (.cells #[.int .u64 pc, .int .i32 val] 33)).more (Nat.le_succ _))
  clear hown2 hs2 hb2 HO1
  go_wp2_with (first
    | (at_builtin; refine wpList_ap8 rfl (.tmp 41) _ rfl (w.heap.size + 1) v1 _ rfl HO2.out w2.heap.size A2 n2 c2 _ rfl HS2.out HLc.out (by omega) ?_; intro v3 w3 hown3 hg3 _; have HO3 := Lib.hid hown3; have HB3 := Lib.hid (HB2.out.grown hg3 (by omega) (fun k hk => (HO2.out.lt k hk).1)); have hz3 := hg3.size; clear hown3 hg3)
    | (at_builtin; refine wpList_ap8 rfl (.tmp 44) _ rfl (w.heap.size + 1) v3 _ rfl HO3.out (w.heap.size + 1) A n c l rfl (HS0.out.below HB3.out) HLd.out (by omega) ?_; intro v4 w4 hown4 hg4 _; have HO4 := Lib.hid hown4; have HB4 := Lib.hid (HB3.out.grown hg4 (by omega) (fun k hk => (HO3.out.lt k hk).1)); have hz4 := hg4.size; obtain ⟨A4, n4, c4, rfl, hs4⟩ := hown4.sl; have HS4 := Lib.hid hs4; have k1 : w4.cell? ⟨w.heap.size, 0, none⟩ = some (.int .u64 pc) := (by rw [HB4.out.cell (by simp)]; simp [go_sem]); have k2 : w4.cell? ⟨w.heap.size, 1, none⟩ = some (.int .i32 val) := (by rw [HB4.out.cell (by simp)]; simp [go_sem]); clear hown4 hg4 hs4))
  have HSx := Lib.hid (show Sl w4 w4.heap.size A4 n4 c4 (Lib.uvarint (Lib.zigzag d) ++ (Lib.uvarint long.toNat ++ l)) by rw [← List.append_assoc]; exact HS4.out)
  refine (istep_of q pc val (pc + m) (wrap32 (val + d)) first true A4 n4 c4 w4.heap.size _ l w4 HSx (Nat.le_refl _) (Lib.hid (by have := HLd.out; rw [← List.append_assoc, List.length_append]; have := HLa.out; have := HLb.out; have := HL.out; rw [List.length_append]; omega)) (Lib.hid (by have := HL.out; omega))
    (Lib.hid (fun A n c B w hs hB => zstep_any q pc val d long m first A n c B l w (Lib.hid hs) hB i0 i1 l0 l1 HD hm3 p0 (by omega)))).mono ?_
  rintro e w5 ⟨A5, n5, c5, rfl, hs5, hb5⟩
  have hz5 := hb5.size
  have HS5 := Lib.hid hs5
  have HB5 := Lib.hid (HB4.out.trans (hb5.mono (by omega)))
  have k3 : w5.cell? ⟨w.heap.size, 0, none⟩ = some (.int .u64 pc) := by rw [HB5.out.cell (by simp)]; simp [go_sem]
  have k4 : w5.cell? ⟨w.heap.size, 1, none⟩ = some (.int .i32 val) := by rw [HB5.out.cell (by simp)]; simp [go_sem]
  have hz6 : w.heap.size < w5.heap.size := by omega
  clear hs5 hb5 k1 k2 HO4 HO3 HO2 HS4 HSx
  go_wp2_with fail
  refine (same8_any A5 A n5 n c5 c w5.heap.size (w.heap.size + 1) l _ (by exact HS5.out.alloc (Nat.le_refl _) _) (by exact (HS0.out.below HB5.out).alloc hz6 _)).mono ?_
  rintro e w' ⟨rfl, rfl⟩
  go_wp2
  go_ret
  exact ⟨rfl, (((Below.refl w.heap.size w).alloc (Nat.le_refl _) _).trans (HB5.out.mono (Nat.le_succ _))).alloc (by omega) _⟩
end

theorem mul64 (a b : Int) (h0 : 0 ≤ a) (h1 : a < 4294967296) (h2 : 0 ≤ b) (h3 : b < 4294967296) : 0 ≤ a * b ∧ IntKind.u64.wrap (a * b) = a * b := by
  have h4 : 0 ≤ a * b := Int.mul_nonneg h0 h2
  have h5 : a * b ≤ 4294967295 * 4294967295 := Int.mul_le_mul (by omega) (by omega) h2 (by omega)
  refine ⟨h4, ?_⟩
  rw [IntKind.wrap_u64]
  omega

theorem fnStep_walk (a0 : Int) (w0 : (Lit.int .u32 a0).wf = true) (a1 : Int) (w1 : (Lit.int .i32 a1).wf = true) (a2 : Int) (w2 : (Lit.int .u32 a2).wf = true) (A3 : Option Addr) (n3 c3 : Nat) (l3 : List UInt8) (a4 b4 : Int) (w4 : (Lit.int .u64 a4).wf = true) (x4 : (Lit.int .i32 b4).wf = true) (a5 : Bool) (w : World) (s3 : Sl w w.heap.size A3 n3 c3 l3) :
    Calls Try.prog 6 #[.int .u32 a0, .int .i32 a1, .int .u32 a2, .slice A3 n3 c3, .agg #[.int .u64 a4, .int .i32 b4], .bool a5] w (Lawful w) := by
  obtain ⟨q0, q1⟩ := bounds_u32 w0
  obtain ⟨d0, d1⟩ := bounds_i32 w1
  obtain ⟨l0, l1⟩ := bounds_u32 w2
  obtain ⟨p0, p1⟩ := bounds_u64 w4
  obtain ⟨m, hm⟩ : ∃ m : Int, a0 * a2 = m := ⟨_, rfl⟩
  obtain ⟨m0, hm1⟩ := mul64 a0 a2 q0 (by omega) l0 (by omega)
  have hm2 : IntKind.u64.wrap (a2 * a0) = m := by rw [Int.mul_comm, hm1, hm]
  rw [hm] at m0
  replace hm1 : IntKind.u64.wrap (a0 * a2) = m := by rw [hm1, hm]
  have hmx := s3.mx
  have hcp := s3.cap
  have HM3 := Lib.hid (show m < 4294967296 → a2 * a0 % 4294967296 = m from fun h => by rw [Int.mul_comm, hm]; omega)
  have HS := Lib.hid s3
  clear w0 w1 w2 w4 x4 s3 hm
  by_cases hn : n3 ≤ 2147483647
  · by_cases h1 : a1 = 0
    · have e1 : (a1 == 0) = true := by simpa using h1
      clear h1
      go_enter Try.func6, Try.ntmps6
      go_wp2_with fail
      go_ret
      exact ⟨rfl, (Below.refl _ _).alloc (Nat.le_refl _) _⟩
    have e1 : (a1 == 0) = false := by simpa using h1
    by_cases h2 : a0 = 0
    · have e2 : (a0 == 0) = true := by simpa using h2
      clear h1 h2
      go_enter Try.func6, Try.ntmps6
      go_wp2_with fail
      go_ret
      exact ⟨rfl, (Below.refl _ _).alloc (Nat.le_refl _) _⟩
    have e2 : (a0 == 0) = false := by simpa using h2
    by_cases h3 : m < 4294967296
    · by_cases h4 : a4 < 4611686018427387904
      · have h5 := HM3.out h3
        exact fnStep_main a0 a1 a2 a4 b4 m A3 n3 c3 l3 a5 w HS hn d0 d1 l0 (by omega) q0 (by omega) p0 h4 e1 e2 m0 h3 hm1 hm2 (Lib.hid h5)
      · clear h1 h2
        go_enter Try.func6, Try.ntmps6
        go_wp2_with fail
        go_ret
        exact ⟨rfl, (Below.refl _ _).alloc (Nat.le_refl _) _⟩
    · clear h1 h2
      go_enter Try.func6, Try.ntmps6
      go_wp2_with fail
      go_ret
      exact ⟨rfl, (Below.refl _ _).alloc (Nat.le_refl _) _⟩
  · skip
    go_enter Try.func6, Try.ntmps6
    go_wp2_with fail
    go_ret
    exact ⟨rfl, (Below.refl _ _).alloc (Nat.le_refl _) _⟩

theorem uvz0 : Lib.uvarint (Lib.zigzag 0) = [0] := by rw [show Lib.zigzag 0 = 0 from rfl]; exact uv0

theorem fnStepFirst_main (q long pc val m : Int) (A : Option Addr) (n c : Nat) (l : List UInt8) (w : World) (hs : Hid (Sl w w.heap.size A n c l)) (hn : n ≤ 2147483647) (l0 : 0 ≤ long) (l1 : long < 4294967296) (q0 : 0 ≤ q) (q1 : q < 4294967296) (p0 : 0 ≤ pc) (p1 : pc < 4611686018427387904)
    (HV : Hid (wrap32 (val + 0) = val)) (e2 : (q == 0) = false) (m0 : 0 ≤ m) (m1 : m < 4294967296) (hm1 : IntKind.u64.wrap (q * long) = m) (hm2 : IntKind.u64.wrap (long * q) = m) (hm3 : Hid (long * q % 4294967296 = m)) :
    Calls Try.prog 8 #[.int .u32 q, .int .u32 long, .slice A n c, .agg #[.int .u64 pc, .int .i32 val]] w (Lawful w) := by
  have HL := Lib.hid (show l.length ≤ 2147483647 by have := hs.out.len; omega)
  have hlb := uv_len long.toNat (by omega)
  have HLb := Lib.hid hlb
  have HO0 := Lib.hid (show Own8 ((w.alloc (.cells #[.int .u64 pc, .int .i32 val] 33)).alloc (.cells #[.int .u8 0] 5)) (w.heap.size + 1) (.slice (some ⟨w.heap.size + 1, 0, none⟩) 1 1) [0] by
    refine ⟨rfl, .inr ⟨w.heap.size + 1, 1, #[.int .u8 0], rfl, Nat.le_refl _, ?_, Nat.le_refl _, by unfold maxLen; omega, rfl, rfl⟩⟩
    have h := heap_alloc_new (w.alloc (.cells #[.int .u64 pc, .int .i32 val] 33)) (.cells #[.int .u8 0] 5)
    rw [size_alloc] at h
    exact h)
  have HLc := Lib.hid (show [(0 : UInt8)].length + (Lib.uvarint long.toNat).length ≤ 140737488355328 by simp; omega)
  have HLd := Lib.hid (show ([(0 : UInt8)] ++ Lib.uvarint long.toNat).length + l.length ≤ 140737488355328 by have := HL.out; rw [List.length_append]; simp; omega)
  have HS0 := Lib.hid ((hs.out.alloc (Nat.le_refl _) (.cells #[.int .u64 pc, .int .i32 val] 33)).more (Nat.le_succ _))
  clear hlb
  go_enter Try.func8, Try.ntmps8
  go_wp2_with fail
  refine (uvarint_int long l0 l1 _).mono ?_
  rintro e w2 ⟨v2, rfl, hown2, hb2⟩
  have hz2 := hb2.size
  simp at hz2
  obtain ⟨A2, n2, c2, rfl, hs2⟩ := hown2.sl
  have HO2 := Lib.hid (HO0.out.below hb2)
  have HS2 := Lib.hid hs2
  have HB2 := Lib.hid (show Below (w.heap.size + 1) (w.alloc (.cells #[.int .u64 pc, .int .i32 val] 33)) w2 from ((Below.refl _ _).alloc (by simp) _).trans (hb2.mono (by simp)))
  clear hown2 hs2 hb2 HO0
  go_wp2_with (first
    | (at_builtin; refine wpList_ap8 rfl (.tmp 31) _ rfl (w.heap.size + 1) (.slice (some ⟨w.heap.size + 1, 0, none⟩) 1 1) [0] rfl HO2.out w2.heap.size A2 n2 c2 _ rfl HS2.out HLc.out (by omega) ?_; intro v3 w3 hown3 hg3 _; have HO3 := Lib.hid hown3; have HB3 := Lib.hid (HB2.out.grown hg3 (by omega) (fun k hk => (HO2.out.lt k hk).1)); have hz3 := hg3.size; clear hown3 hg3)
    | (at_builtin; refine wpList_ap8 rfl (.tmp 34) _ rfl (w.heap.size + 1) v3 _ rfl HO3.out (w.heap.size + 1) A n c l rfl (HS0.out.below HB3.out) HLd.out (by omega) ?_; intro v4 w4 hown4 hg4 _; have HO4 := Lib.hid hown4; have HB4 := Lib.hid (HB3.out.grown hg4 (by omega) (fun k hk => (HO3.out.lt k hk).1)); have hz4 := hg4.size; obtain ⟨A4, n4, c4, rfl, hs4⟩ := hown4.sl; have HS4 := Lib.hid hs4; have k1 : w4.cell? ⟨w.heap.size, 0, none⟩ = some (.int .u64 pc) := (by rw [HB4.out.cell (by simp)]; simp [go_sem]); have k2 : w4.cell? ⟨w.heap.size, 1, none⟩ = some (.int .i32 val) := (by rw [HB4.out.cell (by simp)]; simp [go_sem]); clear hown4 hg4 hs4))
  have HSx := Lib.hid (show Sl w4 w4.heap.size A4 n4 c4 (Lib.uvarint (Lib.zigzag 0) ++ (Lib.uvarint long.toNat ++ l)) by rw [uvz0, ← List.append_assoc]; exact HS4.out)
  refine (istep_of q pc val (pc + m) (wrap32 (val + 0)) true true A4 n4 c4 w4.heap.size _ l w4 HSx (Nat.le_refl _) (Lib.hid (by have := HLd.out; rw [uvz0, ← List.append_assoc, List.length_append]; have := HLb.out; have := HL.out; rw [List.length_append]; simp; omega)) (Lib.hid (by have := HL.out; omega))
    (Lib.hid (fun A n c B w hs hB => zstep_any q pc val 0 long m true A n c B l w (Lib.hid hs) hB (by omega) (by omega) l0 l1 (Lib.hid (.inr rfl)) hm3 p0 (by omega)))).mono ?_
  rw [HV.out]
  rintro e w5 ⟨A5, n5, c5, rfl, hs5, hb5⟩
  have hz5 := hb5.size
  have HS5 := Lib.hid hs5
  have HB5 := Lib.hid (HB4.out.trans (hb5.mono (by omega)))
  have k3 : w5.cell? ⟨w.heap.size, 0, none⟩ = some (.int .u64 pc) := by rw [HB5.out.cell (by simp)]; simp [go_sem]
  have k4 : w5.cell? ⟨w.heap.size, 1, none⟩ = some (.int .i32 val) := by rw [HB5.out.cell (by simp)]; simp [go_sem]
  have hz6 : w.heap.size < w5.heap.size := by omega
  clear hs5 hb5 k1 k2 HO4 HO3 HO2 HS4 HSx
  go_wp2_with fail
  refine (same8_any A5 A n5 n c5 c w5.heap.size (w.heap.size + 1) l _ (by exact HS5.out.alloc (Nat.le_refl _) _) (by exact (HS0.out.below HB5.out).alloc hz6 _)).mono ?_
  rintro e w' ⟨rfl, rfl⟩
  go_wp2
  go_ret
  exact ⟨rfl, (((Below.refl w.heap.size w).alloc (Nat.le_refl _) _).trans (HB5.out.mono (Nat.le_succ _))).alloc (by omega) _⟩

theorem fnStepFirst_walk (a0 : Int) (w0 : (Lit.int .u32 a0).wf = true) (a1 : Int) (w1 : (Lit.int .u32 a1).wf = true) (A2 : Option Addr) (n2 c2 : Nat) (l2 : List UInt8) (a3 b3 : Int) (w3 : (Lit.int .u64 a3).wf = true) (x3 : (Lit.int .i32 b3).wf = true) (w : World) (s2 : Sl w w.heap.size A2 n2 c2 l2) :
    Calls Try.prog 8 #[.int .u32 a0, .int .u32 a1, .slice A2 n2 c2, .agg #[.int .u64 a3, .int .i32 b3]] w (Lawful w) := by
  obtain ⟨q0, q1⟩ := bounds_u32 w0
  obtain ⟨l0, l1⟩ := bounds_u32 w1
  obtain ⟨p0, p1⟩ := bounds_u64 w3
  obtain ⟨v0, v1⟩ := bounds_i32 x3
  obtain ⟨m, hm⟩ : ∃ m : Int, a0 * a1 = m := ⟨_, rfl⟩
  obtain ⟨m0, hm1⟩ := mul64 a0 a1 q0 (by omega) l0 (by omega)
  have hm2 : IntKind.u64.wrap (a1 * a0) = m := by rw [Int.mul_comm, hm1, hm]
  rw [hm] at m0
  replace hm1 : IntKind.u64.wrap (a0 * a1) = m := by rw [hm1, hm]
  have hmx := s2.mx
  have hcp := s2.cap
  have HM3 := Lib.hid (show m < 4294967296 → a1 * a0 % 4294967296 = m from fun h => by rw [Int.mul_comm, hm]; omega)
  have HV := Lib.hid (show wrap32 (b3 + 0) = b3 by unfold wrap32; omega)
  have HS := Lib.hid s2
  clear w0 w1 w3 x3 s2 v0 v1 hm
  by_cases hn : n2 ≤ 2147483647
  · by_cases h2 : a0 = 0
    · have e2 : (a0 == 0) = true := by simpa using h2
      clear h2
      go_enter Try.func8, Try.ntmps8
      go_wp2_with fail
      go_ret
      exact ⟨rfl, (Below.refl _ _).alloc (Nat.le_refl _) _⟩
    have e2 : (a0 == 0) = false := by simpa using h2
    by_cases h3 : m < 4294967296
    · by_cases h4 : a3 < 4611686018427387904
      · have h5 := HM3.out h3
        exact fnStepFirst_main a0 a1 a3 b3 m A2 n2 c2 l2 w HS hn l0 (by omega) q0 (by omega) p0 h4 HV e2 m0 h3 hm1 hm2 (Lib.hid h5)
      · clear h2
        go_enter Try.func8, Try.ntmps8
        go_wp2_with fail
        go_ret
        exact ⟨rfl, (Below.refl _ _).alloc (Nat.le_refl _) _⟩
    · clear h2
      go_enter Try.func8, Try.ntmps8
      go_wp2_with fail
      go_ret
      exact ⟨rfl, (Below.refl _ _).alloc (Nat.le_refl _) _⟩
  · skip
    go_enter Try.func8, Try.ntmps8
    go_wp2_with fail
    go_ret
    exact ⟨rfl, (Below.refl _ _).alloc (Nat.le_refl _) _⟩
end Go.Proofs.Ytmnjcngjhpdmeaa
