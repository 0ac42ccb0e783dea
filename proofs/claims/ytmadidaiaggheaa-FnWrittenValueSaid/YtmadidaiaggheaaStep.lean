/- The contract of step. -/
import Derived.Test.YtmadidaiaggheaaRv
import Derived.Deep.RegionHeld3
import Derived.Deep.DrawnRows
namespace Go.Proofs.Ytmadidaiaggheaa
open Go.RowKit
set_option linter.unusedVariables false
attribute [local go_sem ↓] Go.wp_at_zero Go.wp_at_succ

/-- A block of one cell. -/
def Box (w : World) (b : Nat) (t : TypeId) (v : Value) : Prop := w.heap[b]? = some (.cells #[v] t (0, 0))
section
variable {w w' : World} {b : Nat} {t : TypeId} {v : Value}
theorem Box.cell (h : Box w b t v) : w.cell? ⟨b, 0, none⟩ = some v := cell_of_row w b 0 #[v] t (0, 0) h
theorem Box.free (h : Box w b t v) : w.frozen? ⟨b, 0, none⟩ = false := by unfold Box at h; simp [World.frozen?, h]
theorem Box.set (h : Box w b t v) (u : Value) : Box (w.setCell ⟨b, 0, none⟩ u) b t u := by unfold Box at h ⊢; simp [World.setCell, Array.getElem?_modify, h]
theorem Box.far (h : Box w b t v) {p : Addr} (hp : b ≠ p.block) (u : Value) : Box (w.setCell p u) b t v := (Below.heap_setCell w p u b hp).trans h
theorem Box.lt (h : Box w b t v) : b < w.heap.size := by
  rcases Nat.lt_or_ge b w.heap.size with h1 | h1
  · exact h1
  · unfold Box at h; rw [Array.getElem?_eq_none h1] at h; cases h
theorem Box.new (w : World) (t : TypeId) (v : Value) : Box (w.alloc (.cells #[v] t)) w.heap.size t v := heap_alloc_new w _
theorem Box.new_at (w : World) (k : Nat) (t : TypeId) (v : Value) (h : w.heap.size = k) : Box (w.alloc (.cells #[v] t)) k t v := by subst h; exact Box.new w t v
theorem Box.alloc (h : Box w b t v) (o : Obj) : Box (w.alloc o) b t v := (Below.heap_alloc w o b h.lt).trans h
theorem Box.below {B : Nat} (h : Box w b t v) (hb : Below B w w') (hB : b < B) : Box w' b t v := (hb.block b hB).trans h
end


/-- Nothing but three blocks has turned. -/
structure Kept3 (w w' : World) (a b c : Nat) : Prop where
  os : w'.os = w.os
  tape : w'.tape = w.tape
  output : w'.output = w.output
  size : w'.heap.size = w.heap.size
  block : ∀ k, k ≠ a → k ≠ b → k ≠ c → w'.heap[k]? = w.heap[k]?
theorem Kept3.below {w w' : World} {a b c B : Nat} (h : Kept3 w w' a b c) (ha : B ≤ a) (hb : B ≤ b) (hc : B ≤ c) : Below B w w' :=
  ⟨h.os, h.tape, h.output, by rw [h.size]; exact Nat.le_refl _, fun k hk => h.block k (by omega) (by omega) (by omega)⟩
theorem Kept3.trans {u v w : World} {a b c : Nat} (h : Kept3 u v a b c) (k : Kept3 v w a b c) : Kept3 u w a b c :=
  ⟨k.os.trans h.os, k.tape.trans h.tape, k.output.trans h.output, k.size.trans h.size, fun i h1 h2 h3 => (k.block i h1 h2 h3).trans (h.block i h1 h2 h3)⟩
theorem Kept3.set {w : World} {a b c g : Nat} (hg : g = a ∨ g = b ∨ g = c) (u : Value) : Kept3 w (w.setCell ⟨g, 0, none⟩ u) a b c :=
  ⟨rfl, rfl, rfl, by simp [World.setCell], fun k h1 h2 h3 => Below.heap_setCell _ _ _ _ (fun e => by subst e; rcases hg with h | h | h <;> omega)⟩
theorem Kept3.drew {w w' : World} {a b c : Nat} (h : Kept3 w w' a b c) : Kept3 w w'.drew a b c := ⟨h.os, h.tape, h.output, h.size, h.block⟩

/-- What step leaves where there is a step. -/
def StepPost (w : World) (pb cb vb B : Nat) (pc val : Int) (rest : List UInt8) (e : Ending) (w' : World) : Prop :=
  e = .returned (.bool true) ∧ ∃ A n c, Box w' pb 24 (.slice A n c) ∧ Box w' cb 41 (.int .u64 pc) ∧ Box w' vb 21 (.int .i32 val) ∧ Sl w' B A n c rest ∧ Kept3 w w' pb cb vb

section
variable (tb pb cb vb n c B x y : Nat) (q pc val : Int) (A : Option Addr) (rest : List UInt8) (w : World) (hq : w.cell? ⟨tb, 0, none⟩ = some (.int .u32 q)) (HP : Hid (Box w pb 24 (.slice A n c))) (HC : Hid (Box w cb 41 (.int .u64 pc))) (HV : Hid (Box w vb 21 (.int .i32 val)))
    (hs : Hid (Sl w B A n c (Lib.uvarint x ++ (Lib.uvarint y ++ rest)))) (d1 : pb ≠ tb) (d4 : pb ≠ cb) (d5 : pb ≠ vb) (d6 : cb ≠ vb) (b1 : B ≤ pb) (b2 : B ≤ cb) (b3 : B ≤ vb) (u : Int) (HU : Hid ((x : Int) = u)) (hx : Hid (x < 4294967296)) (hy : Hid (y < 4294967296))
    (z : Int) (HZ : Hid ((y : Int) = z)) (m : Int) (m0 : 0 ≤ m) (m1 : m < 4294967296) (hm : z * q % 4294967296 = m) (p0 : 0 ≤ pc) (p1 : pc + m ≤ 18446744073709551615)
include hq HP HC HV hs d1 d4 d5 d6 b1 b2 b3 HU hx hy HZ m0 m1 hm p0 p1

theorem step_odd (first : Bool) (d : Int) (e0 : (u == 0) = false) (ho : (bits .and .u32 u 1 != 0) = true) (hd : wrap32 (bits .xor .u32 IntKind.u32.max (u / 2)) = d) (i0 : -2147483648 ≤ d) (i1 : d ≤ 2147483647) :
    Calls Try.prog 39 #[.pointer (some ⟨tb, 0, none⟩), .pointer (some ⟨pb, 0, none⟩), .pointer (some ⟨cb, 0, none⟩), .pointer (some ⟨vb, 0, none⟩), .bool first] w (StepPost w pb cb vb B (pc + m) (wrap32 (val + d)) rest) := by
  have hsg : IntKind.u32.signed = false := rfl
  go_enter Try.func39, Try.ntmps39
  go_wp2_with fail
  refine (rv_any _ pb n c B x A _ w hx.out HP.out.cell HP.out.free hs.out).mono ?_
  rintro e w1 ⟨A1, n1, c1, rfl, hw1, hs1⟩
  rw [HU.out]
  have HP1 := Lib.hid (show Box w1 pb 24 (.slice A1 n1 c1) by rw [hw1]; exact HP.out.set _)
  have HC1 := Lib.hid (show Box w1 cb 41 (.int .u64 pc) by rw [hw1]; exact HC.out.far d4.symm _)
  have HV1 := Lib.hid (show Box w1 vb 21 (.int .i32 val) by rw [hw1]; exact HV.out.far d5.symm _)
  have hq1 : w1.cell? ⟨tb, 0, none⟩ = some (.int .u32 q) := by rw [hw1, World.cell?_setCell_other _ _ _ _ (fun e => by cases e; exact d1 rfl)]; exact hq
  have HS1 := Lib.hid (show Sl w1 B A1 n1 c1 (Lib.uvarint y ++ rest) by rw [hw1]; exact hs1.set b1 _)
  have HK1 := Lib.hid (show Kept3 w w1 pb cb vb by rw [hw1]; exact Kept3.set (.inl rfl) _)
  have g1 := HC1.out.cell
  have g2 := HC1.out.free
  have g3 := HV1.out.cell
  have g4 := HV1.out.free
  clear hs1 hw1 hq
  go_wp2_with fail
  go_region_held3 (fun W => W.cell? ⟨tb, 0, none⟩ = some (.int .u32 q)) (go_keep) ((go_at_call 40; refine (rv_any _ pb n1 c1 B y A1 rest w1.drew hy.out HP1.out.cell HP1.out.free HS1.out.drew).mono ?_; rintro e w2 ⟨A2, n2, c2, rfl, rfl, hs2⟩; rw [HZ.out]; have HS2 := Lib.hid hs2; clear hs2))
  go_wp2
  go_ret
  refine ⟨rfl, A2, n2, c2, ?_, ?_, ?_, ?_, ?_⟩
  · exact (((HP1.out.set _).far (p := ⟨cb, 0, none⟩) d4 _).far (p := ⟨vb, 0, none⟩) d5 _)
  · exact (((HC1.out.far (p := ⟨pb, 0, none⟩) d4.symm _).set _).far (p := ⟨vb, 0, none⟩) d6 _)
  · exact (((HV1.out.far (p := ⟨pb, 0, none⟩) d5.symm _).far (p := ⟨cb, 0, none⟩) d6.symm _).set _)
  · exact ((((HS2.out.keep (w' := w1) (Nat.le_refl _) (fun _ _ _ => rfl)).set (p := ⟨pb, 0, none⟩) b1 _).set (p := ⟨cb, 0, none⟩) b2 _).set (p := ⟨vb, 0, none⟩) b3 _).drew
  · exact (((HK1.out.trans (Kept3.set (g := pb) (.inl rfl) _)).trans (Kept3.set (g := cb) (.inr (.inl rfl)) _)).trans (Kept3.set (g := vb) (.inr (.inr rfl)) _)).drew
theorem step_even (first : Bool) (d : Int) (e0 : (u == 0) = false) (ho : (bits .and .u32 u 1 != 0) = false) (hd : u / 2 = d) (i0 : 0 ≤ d) (i1 : d ≤ 2147483647) :
    Calls Try.prog 39 #[.pointer (some ⟨tb, 0, none⟩), .pointer (some ⟨pb, 0, none⟩), .pointer (some ⟨cb, 0, none⟩), .pointer (some ⟨vb, 0, none⟩), .bool first] w (StepPost w pb cb vb B (pc + m) (wrap32 (val + d)) rest) := by
  have hsg : IntKind.u32.signed = false := rfl
  go_enter Try.func39, Try.ntmps39
  go_wp2_with fail
  refine (rv_any _ pb n c B x A _ w hx.out HP.out.cell HP.out.free hs.out).mono ?_
  rintro e w1 ⟨A1, n1, c1, rfl, hw1, hs1⟩
  rw [HU.out]
  have HP1 := Lib.hid (show Box w1 pb 24 (.slice A1 n1 c1) by rw [hw1]; exact HP.out.set _)
  have HC1 := Lib.hid (show Box w1 cb 41 (.int .u64 pc) by rw [hw1]; exact HC.out.far d4.symm _)
  have HV1 := Lib.hid (show Box w1 vb 21 (.int .i32 val) by rw [hw1]; exact HV.out.far d5.symm _)
  have hq1 : w1.cell? ⟨tb, 0, none⟩ = some (.int .u32 q) := by rw [hw1, World.cell?_setCell_other _ _ _ _ (fun e => by cases e; exact d1 rfl)]; exact hq
  have HS1 := Lib.hid (show Sl w1 B A1 n1 c1 (Lib.uvarint y ++ rest) by rw [hw1]; exact hs1.set b1 _)
  have HK1 := Lib.hid (show Kept3 w w1 pb cb vb by rw [hw1]; exact Kept3.set (.inl rfl) _)
  have g1 := HC1.out.cell
  have g2 := HC1.out.free
  have g3 := HV1.out.cell
  have g4 := HV1.out.free
  clear hs1 hw1 hq
  go_wp2_with fail
  go_region_held3 (fun W => W.cell? ⟨tb, 0, none⟩ = some (.int .u32 q)) (go_keep) ((go_at_call 40; refine (rv_any _ pb n1 c1 B y A1 rest w1.drew hy.out HP1.out.cell HP1.out.free HS1.out.drew).mono ?_; rintro e w2 ⟨A2, n2, c2, rfl, rfl, hs2⟩; rw [HZ.out]; have HS2 := Lib.hid hs2; clear hs2))
  go_wp2
  go_ret
  refine ⟨rfl, A2, n2, c2, ?_, ?_, ?_, ?_, ?_⟩
  · exact (((HP1.out.set _).far (p := ⟨cb, 0, none⟩) d4 _).far (p := ⟨vb, 0, none⟩) d5 _)
  · exact (((HC1.out.far (p := ⟨pb, 0, none⟩) d4.symm _).set _).far (p := ⟨vb, 0, none⟩) d6 _)
  · exact (((HV1.out.far (p := ⟨pb, 0, none⟩) d5.symm _).far (p := ⟨cb, 0, none⟩) d6.symm _).set _)
  · exact ((((HS2.out.keep (w' := w1) (Nat.le_refl _) (fun _ _ _ => rfl)).set (p := ⟨pb, 0, none⟩) b1 _).set (p := ⟨cb, 0, none⟩) b2 _).set (p := ⟨vb, 0, none⟩) b3 _).drew
  · exact (((HK1.out.trans (Kept3.set (g := pb) (.inl rfl) _)).trans (Kept3.set (g := cb) (.inr (.inl rfl)) _)).trans (Kept3.set (g := vb) (.inr (.inr rfl)) _)).drew
theorem step_zero (d : Int) (e0 : (u == 0) = true) (ho : (bits .and .u32 u 1 != 0) = false) (hd : u / 2 = d) (i0 : 0 ≤ d) (i1 : d ≤ 2147483647) :
    Calls Try.prog 39 #[.pointer (some ⟨tb, 0, none⟩), .pointer (some ⟨pb, 0, none⟩), .pointer (some ⟨cb, 0, none⟩), .pointer (some ⟨vb, 0, none⟩), .bool true] w (StepPost w pb cb vb B (pc + m) (wrap32 (val + d)) rest) := by
  have hsg : IntKind.u32.signed = false := rfl
  go_enter Try.func39, Try.ntmps39
  go_wp2_with fail
  refine (rv_any _ pb n c B x A _ w hx.out HP.out.cell HP.out.free hs.out).mono ?_
  rintro e w1 ⟨A1, n1, c1, rfl, hw1, hs1⟩
  rw [HU.out]
  have HP1 := Lib.hid (show Box w1 pb 24 (.slice A1 n1 c1) by rw [hw1]; exact HP.out.set _)
  have HC1 := Lib.hid (show Box w1 cb 41 (.int .u64 pc) by rw [hw1]; exact HC.out.far d4.symm _)
  have HV1 := Lib.hid (show Box w1 vb 21 (.int .i32 val) by rw [hw1]; exact HV.out.far d5.symm _)
  have hq1 : w1.cell? ⟨tb, 0, none⟩ = some (.int .u32 q) := by rw [hw1, World.cell?_setCell_other _ _ _ _ (fun e => by cases e; exact d1 rfl)]; exact hq
  have HS1 := Lib.hid (show Sl w1 B A1 n1 c1 (Lib.uvarint y ++ rest) by rw [hw1]; exact hs1.set b1 _)
  have HK1 := Lib.hid (show Kept3 w w1 pb cb vb by rw [hw1]; exact Kept3.set (.inl rfl) _)
  have g1 := HC1.out.cell
  have g2 := HC1.out.free
  have g3 := HV1.out.cell
  have g4 := HV1.out.free
  clear hs1 hw1 hq
  go_wp2_with fail
  go_region_held3 (fun W => W.cell? ⟨tb, 0, none⟩ = some (.int .u32 q)) (go_keep) ((go_at_call 40; refine (rv_any _ pb n1 c1 B y A1 rest w1.drew hy.out HP1.out.cell HP1.out.free HS1.out.drew).mono ?_; rintro e w2 ⟨A2, n2, c2, rfl, rfl, hs2⟩; rw [HZ.out]; have HS2 := Lib.hid hs2; clear hs2))
  go_wp2
  go_ret
  refine ⟨rfl, A2, n2, c2, ?_, ?_, ?_, ?_, ?_⟩
  · exact (((HP1.out.set _).far (p := ⟨cb, 0, none⟩) d4 _).far (p := ⟨vb, 0, none⟩) d5 _)
  · exact (((HC1.out.far (p := ⟨pb, 0, none⟩) d4.symm _).set _).far (p := ⟨vb, 0, none⟩) d6 _)
  · exact (((HV1.out.far (p := ⟨pb, 0, none⟩) d5.symm _).far (p := ⟨cb, 0, none⟩) d6.symm _).set _)
  · exact ((((HS2.out.keep (w' := w1) (Nat.le_refl _) (fun _ _ _ => rfl)).set (p := ⟨pb, 0, none⟩) b1 _).set (p := ⟨cb, 0, none⟩) b2 _).set (p := ⟨vb, 0, none⟩) b3 _).drew
  · exact (((HK1.out.trans (Kept3.set (g := pb) (.inl rfl) _)).trans (Kept3.set (g := cb) (.inr (.inl rfl)) _)).trans (Kept3.set (g := vb) (.inr (.inr rfl)) _)).drew
end

theorem and1 (u : Int) (h0 : 0 ≤ u) (h1 : u < 4294967296) : bits .and .u32 u 1 = u % 2 := by
  obtain ⟨n, rfl⟩ := Int.eq_ofNat_of_zero_le h0
  have h := u32_and_nat n 1 (by omega) (by decide)
  rw [show ((1 : Nat) : Int) = 1 from rfl] at h
  rw [h, Nat.and_one_is_mod]
  omega
theorem xor_ones32 (x : Nat) (hx : x < 4294967296) : 4294967295 ^^^ x = 4294967295 - x := by
  have e : 4294967295 - x = 2 ^ 32 - (x + 1) := by omega
  apply Nat.eq_of_testBit_eq
  intro i
  rw [e, Nat.testBit_xor, show 4294967295 = 2 ^ 32 - 1 from rfl, Nat.testBit_two_pow_sub_one, Nat.testBit_two_pow_sub_succ hx]
  by_cases h : i < 32
  · simp [h]
  · have : x.testBit i = false := Nat.testBit_lt_two_pow (Nat.lt_of_lt_of_le hx (Nat.pow_le_pow_right (n := 2) (i := 32) (by omega) (by omega)))
    simp [h, this]
theorem not32 (x : Int) (h0 : 0 ≤ x) (h1 : x < 4294967296) : bits .xor .u32 IntKind.u32.max x = 4294967295 - x := by
  obtain ⟨n, rfl⟩ := Int.eq_ofNat_of_zero_le h0
  have h := u32_xor_nat 4294967295 n (by decide) (by omega)
  rw [show ((4294967295 : Nat) : Int) = IntKind.u32.max by decide] at h
  rw [h, xor_ones32 n (by omega)]
  omega

theorem step_any (tb pb cb vb n c B : Nat) (q pc val d long m : Int) (first : Bool) (A : Option Addr) (rest : List UInt8) (w : World) (hq : w.cell? ⟨tb, 0, none⟩ = some (.int .u32 q)) (hp : Box w pb 24 (.slice A n c)) (hcb : Box w cb 41 (.int .u64 pc)) (hvb : Box w vb 21 (.int .i32 val))
    (hs : Sl w B A n c (Lib.uvarint (Lib.zigzag d) ++ (Lib.uvarint long.toNat ++ rest))) (d1 : pb ≠ tb) (d4 : pb ≠ cb) (d5 : pb ≠ vb) (d6 : cb ≠ vb) (b1 : B ≤ pb) (b2 : B ≤ cb) (b3 : B ≤ vb)
    (i0 : -2147483648 ≤ d) (i1 : d ≤ 2147483647) (l0 : 0 ≤ long) (l1 : long < 4294967296) (hf : d ≠ 0 ∨ first = true) (hm : long * q % 4294967296 = m) (p0 : 0 ≤ pc) (p1 : pc + m ≤ 18446744073709551615) :
    Calls Try.prog 39 #[.pointer (some ⟨tb, 0, none⟩), .pointer (some ⟨pb, 0, none⟩), .pointer (some ⟨cb, 0, none⟩), .pointer (some ⟨vb, 0, none⟩), .bool first] w (StepPost w pb cb vb B (pc + m) (wrap32 (val + d)) rest) := by
  have m0 : 0 ≤ m := by omega
  have m1 : m < 4294967296 := by omega
  have hzl : Lib.zigzag d < 4294967296 := by unfold Lib.zigzag; split <;> omega
  by_cases hneg : d < 0
  · have hu : ((Lib.zigzag d : Nat) : Int) = -2 * d - 1 := by unfold Lib.zigzag; rw [if_neg (by omega)]; omega
    refine step_odd tb pb cb vb n c B _ _ q pc val A rest w hq (Lib.hid hp) (Lib.hid hcb) (Lib.hid hvb) (Lib.hid hs) d1 d4 d5 d6 b1 b2 b3 _ (Lib.hid hu) (Lib.hid hzl) (Lib.hid (by omega)) long (Lib.hid (by omega)) m m0 m1 hm p0 p1 first d ?_ ?_ ?_ i0 i1
    · simp only [beq_eq_false_iff_ne, ne_eq]; omega
    · rw [and1 _ (by omega) (by omega)]; simp only [bne_iff_ne, ne_eq]; omega
    · rw [not32 _ (by omega) (by omega)]; unfold wrap32; omega
  · have hu : ((Lib.zigzag d : Nat) : Int) = 2 * d := by unfold Lib.zigzag; rw [if_pos (by omega)]; omega
    have ho : (bits .and .u32 (2 * d) 1 != 0) = false := by rw [and1 _ (by omega) (by omega)]; simp only [bne_eq_false_iff_eq]; omega
    by_cases h0 : d = 0
    · have hft : first = true := hf.resolve_left (fun h => h h0)
      subst hft
      exact step_zero tb pb cb vb n c B _ _ q pc val A rest w hq (Lib.hid hp) (Lib.hid hcb) (Lib.hid hvb) (Lib.hid hs) d1 d4 d5 d6 b1 b2 b3 _ (Lib.hid hu) (Lib.hid hzl) (Lib.hid (by omega)) long (Lib.hid (by omega)) m m0 m1 hm p0 p1 d (by simp only [beq_iff_eq]; omega) ho (by omega) (by omega) i1
    · exact step_even tb pb cb vb n c B _ _ q pc val A rest w hq (Lib.hid hp) (Lib.hid hcb) (Lib.hid hvb) (Lib.hid hs) d1 d4 d5 d6 b1 b2 b3 _ (Lib.hid hu) (Lib.hid hzl) (Lib.hid (by omega)) long (Lib.hid (by omega)) m m0 m1 hm p0 p1 first d (by simp only [beq_eq_false_iff_ne, ne_eq]; omega) ho (by omega) (by omega) i1

theorem uv0 : Lib.uvarint 0 = [0] := by rw [Lib.uvarint_small (by omega)]; rfl

/-- What step leaves at the end of a table. -/
def EndPost (w : World) (pb B : Nat) (rest : List UInt8) (e : Ending) (w' : World) : Prop :=
  e = .returned (.bool false) ∧ ∃ A n c, w' = w.setCell ⟨pb, 0, none⟩ (.slice A n c) ∧ Sl w B A n c rest
theorem step_end (T V C : Value) (pb n c B : Nat) (A : Option Addr) (rest : List UInt8) (w : World) (HP : Hid (Box w pb 24 (.slice A n c))) (hs : Hid (Sl w B A n c (0 :: rest))) :
    Calls Try.prog 39 #[T, .pointer (some ⟨pb, 0, none⟩), C, V, .bool false] w (EndPost w pb B rest) := by
  have HS := Lib.hid (show Sl w B A n c (Lib.uvarint 0 ++ rest) by rw [uv0]; exact hs.out)
  go_enter Try.func39, Try.ntmps39
  go_wp2_with fail
  refine (rv_any _ pb n c B 0 A _ w (by decide) HP.out.cell HP.out.free HS.out).mono ?_
  rintro e w1 ⟨A1, n1, c1, rfl, rfl, hs1⟩
  have HS1 := Lib.hid hs1
  clear hs1
  go_wp2
  go_ret
  exact ⟨rfl, A1, n1, c1, rfl, HS1.out⟩
end Go.Proofs.Ytmadidaiaggheaa
