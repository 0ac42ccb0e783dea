/- The contract of PCIter.Next. -/
import Derived.Test.YtmadidaiaggheaaShelf
import Derived.Test.YtmadidaiaggheaaDec
import Derived.Test.YtmadidaiaggheaaCl
import Derived.Test.YtmadidaiaggheaaPl
import Derived.RegionTactic
namespace Go.Proofs.Ytmadidaiaggheaa
open Go.RowKit
set_option linter.unusedVariables false

theorem heap_set {w : World} {g : Nat} {cs : Array Value} {t : TypeId} (h : w.heap[g]? = some (.cells cs t (0, 0))) (i : Nat) (u : Value) : (w.setCell ⟨g, i, none⟩ u).heap[g]? = some (.cells (cs.setIfInBounds i u) t (0, 0)) := by
  simp [World.setCell, Array.getElem?_modify, h]
/-- The block of a PCIter. -/
def It (w : World) (g : Nat) (A : Option Addr) (n c : Nat) (pc nxt sc val : Int) (st dn : Bool) : Prop :=
  w.heap[g]? = some (.cells #[.slice A n c, .int .u32 pc, .int .u32 nxt, .int .u32 sc, .int .i32 val, .bool st, .bool dn] 60 (0, 0))
section
variable {w w' : World} {g n c : Nat} {A : Option Addr} {pc nxt sc val : Int} {st dn : Bool}
theorem It.c0 (h : It w g A n c pc nxt sc val st dn) : w.cell? ⟨g, 0, none⟩ = some (.slice A n c) := cell_of_row w g 0 _ _ _ h
theorem It.c1 (h : It w g A n c pc nxt sc val st dn) : w.cell? ⟨g, 1, none⟩ = some (.int .u32 pc) := cell_of_row w g 1 _ _ _ h
theorem It.c2 (h : It w g A n c pc nxt sc val st dn) : w.cell? ⟨g, 2, none⟩ = some (.int .u32 nxt) := cell_of_row w g 2 _ _ _ h
theorem It.c3 (h : It w g A n c pc nxt sc val st dn) : w.cell? ⟨g, 3, none⟩ = some (.int .u32 sc) := cell_of_row w g 3 _ _ _ h
theorem It.c4 (h : It w g A n c pc nxt sc val st dn) : w.cell? ⟨g, 4, none⟩ = some (.int .i32 val) := cell_of_row w g 4 _ _ _ h
theorem It.c5 (h : It w g A n c pc nxt sc val st dn) : w.cell? ⟨g, 5, none⟩ = some (.bool st) := cell_of_row w g 5 _ _ _ h
theorem It.c6 (h : It w g A n c pc nxt sc val st dn) : w.cell? ⟨g, 6, none⟩ = some (.bool dn) := cell_of_row w g 6 _ _ _ h
theorem It.fr (h : It w g A n c pc nxt sc val st dn) (i : Nat) : w.frozen? ⟨g, i, none⟩ = false := by unfold It at h; simp [World.frozen?, h]
theorem It.s0 (h : It w g A n c pc nxt sc val st dn) (A' : Option Addr) (n' c' : Nat) : It (w.setCell ⟨g, 0, none⟩ (.slice A' n' c')) g A' n' c' pc nxt sc val st dn := by have h2 := heap_set h 0 (.slice A' n' c'); simpa [It] using h2
theorem It.s1 (h : It w g A n c pc nxt sc val st dn) (x : Int) : It (w.setCell ⟨g, 1, none⟩ (.int .u32 x)) g A n c x nxt sc val st dn := by have h2 := heap_set h 1 (.int .u32 x); simpa [It] using h2
theorem It.s2 (h : It w g A n c pc nxt sc val st dn) (x : Int) : It (w.setCell ⟨g, 2, none⟩ (.int .u32 x)) g A n c pc x sc val st dn := by have h2 := heap_set h 2 (.int .u32 x); simpa [It] using h2
theorem It.s3 (h : It w g A n c pc nxt sc val st dn) (x : Int) : It (w.setCell ⟨g, 3, none⟩ (.int .u32 x)) g A n c pc nxt x val st dn := by have h2 := heap_set h 3 (.int .u32 x); simpa [It] using h2
theorem It.s4 (h : It w g A n c pc nxt sc val st dn) (x : Int) : It (w.setCell ⟨g, 4, none⟩ (.int .i32 x)) g A n c pc nxt sc x st dn := by have h2 := heap_set h 4 (.int .i32 x); simpa [It] using h2
theorem It.s5 (h : It w g A n c pc nxt sc val st dn) (x : Bool) : It (w.setCell ⟨g, 5, none⟩ (.bool x)) g A n c pc nxt sc val x dn := by have h2 := heap_set h 5 (.bool x); simpa [It] using h2
theorem It.s6 (h : It w g A n c pc nxt sc val st dn) (x : Bool) : It (w.setCell ⟨g, 6, none⟩ (.bool x)) g A n c pc nxt sc val st x := by have h2 := heap_set h 6 (.bool x); simpa [It] using h2
theorem It.drew (h : It w g A n c pc nxt sc val st dn) : It w.drew g A n c pc nxt sc val st dn := h
theorem It.lt (h : It w g A n c pc nxt sc val st dn) : g < w.heap.size := by
  rcases Nat.lt_or_ge g w.heap.size with h1 | h1
  · exact h1
  · unfold It at h; rw [Array.getElem?_eq_none h1] at h; cases h
end

/-- Nothing but block g has turned. -/
structure KeptG (w w' : World) (g : Nat) : Prop where
  os : w'.os = w.os
  tape : w'.tape = w.tape
  output : w'.output = w.output
  size : w'.heap.size = w.heap.size
  block : ∀ k, k ≠ g → w'.heap[k]? = w.heap[k]?
theorem KeptG.refl (w : World) (g : Nat) : KeptG w w g := ⟨rfl, rfl, rfl, rfl, fun _ _ => rfl⟩
theorem KeptG.below {w w' : World} {g B : Nat} (h : KeptG w w' g) (hB : B ≤ g) : Below B w w' := ⟨h.os, h.tape, h.output, by rw [h.size]; exact Nat.le_refl _, fun k hk => h.block k (by omega)⟩
theorem KeptG.trans {u v w : World} {g : Nat} (h : KeptG u v g) (k : KeptG v w g) : KeptG u w g := ⟨k.os.trans h.os, k.tape.trans h.tape, k.output.trans h.output, k.size.trans h.size, fun i hi => (k.block i hi).trans (h.block i hi)⟩
theorem KeptG.set {w : World} (g i : Nat) (u : Value) : KeptG w (w.setCell ⟨g, i, none⟩ u) g := ⟨rfl, rfl, rfl, by simp [World.setCell], fun k hk => Below.heap_setCell _ _ _ _ hk⟩
theorem KeptG.drew {w w' : World} {g : Nat} (h : KeptG w w' g) : KeptG w w'.drew g := ⟨h.os, h.tape, h.output, h.size, h.block⟩
theorem KeptG.grown {w w' : World} {g : Nat} (h : KeptG w w' g) : w.grownBy w' (some g) := ⟨h.os, h.tape, h.output, by rw [h.size]; exact Nat.le_refl _, fun k _ hne => h.block k (fun e => hne (by rw [e]))⟩

def NextPost (w : World) (g b B : Nat) (pc nxt sc val : Int) (rest : List UInt8) (e : Ending) (w' : World) : Prop :=
  e = .returned (.tuple #[]) ∧ ∃ o n c, It w' g (some ⟨b, o, none⟩) n c pc nxt sc val false false ∧ Sl w' B (some ⟨b, o, none⟩) n c rest ∧ KeptG w w' g

theorem next_nz (g n c b o B : Nat) (pc nxt sc val d y m : Int) (st : Bool) (rest : List UInt8) (k1 k2 : Nat) (w : World) (HI : Hid (It w g (some ⟨b, o, none⟩) n c pc nxt sc val st false)) (hs : Hid (Sl w B (some ⟨b, o, none⟩) n c (Lib.uvarint (Lib.zigzag d) ++ (Lib.uvarint y.toNat ++ rest)))) (hbg : b ≠ g)
    (d0 : -2147483648 ≤ d) (d1 : d ≤ 2147483647) (y0 : 0 ≤ y) (y1 : y < 4294967296) (hk1 : Hid ((Lib.uvarint (Lib.zigzag d)).length = k1)) (hk2 : Hid ((Lib.uvarint y.toNat).length = k2)) (a1 : 1 ≤ k1) (a2 : 1 ≤ k2) (a3 : k1 + k2 < n) (a4 : n ≤ c) (a5 : c ≤ 9223372036854775807)
    (e0 : (d == 0) = false) (hm : y * sc % 4294967296 = m) (n0 : 0 ≤ nxt) (n1 : nxt + m < 4294967296) (m0 : 0 ≤ m) :
    Calls Try.prog 30 #[.pointer (some ⟨g, 0, none⟩)] w (NextPost w g b B nxt (nxt + m) sc (wrap32 (val + d)) rest) := by
  have g0 := HI.out.c0
  have g1 := HI.out.c1
  have g2 := HI.out.c2
  have g3 := HI.out.c3
  have g4 := HI.out.c4
  have g5 := HI.out.c5
  have g6 := HI.out.c6
  have f0 := HI.out.fr 0
  have f1 := HI.out.fr 1
  have f2 := HI.out.fr 2
  have f4 := HI.out.fr 4
  have f5 := HI.out.fr 5
  have f6 := HI.out.fr 6
  have hz0 : ((n : Int) == 0) = false := by simp; omega
  have hVd := vd d (Lib.uvarint y.toNat ++ rest) (by have := uv_len (Lib.zigzag d) (by unfold Lib.zigzag; split <;> omega); omega)
  have HVd := Lib.hid hVd
  have hUd := uvd y.toNat rest (by have := uv_len y.toNat (by omega); omega)
  have HUd := Lib.hid hUd
  clear hVd hUd
  go_enter Try.func30, Try.ntmps30
  go_wp2_with fail
  have hs1 := hs.out.set_ne (p := ⟨g, 1, none⟩) hbg (.int .u32 nxt)
  obtain ⟨_, _, e, _, hcell⟩ := hs1.at_ (k := 0) (by omega)
  cases e
  refine (Try.binary_Varint b o n c _ _ hs1.len hcell).mono ?_
  rw [HVd.out, hk1.out]
  rintro e w' ⟨rfl, rfl⟩
  clear hs1 hcell
  have hc1 : ¬ c = k1 := by omega
  have HS2 := Lib.hid (hs.out.cutL hk1.out hc1)
  go_wp2_with fail
  have hs2 := (((HS2.out.set_ne (p := ⟨g, 1, none⟩) hbg (.int .u32 nxt)).set_ne (p := ⟨g, 0, none⟩) hbg (.slice (some ⟨b, o + k1, none⟩) (n - k1) (c - k1))).set_ne (p := ⟨g, 5, none⟩) hbg (.bool false)).set_ne (p := ⟨g, 4, none⟩) hbg (.int .i32 (wrap32 (val + d)))
  obtain ⟨_, _, e, _, hcell⟩ := hs2.at_ (k := 0) (by omega)
  cases e
  refine (Try.binary_Uvarint b (o + k1) (n - k1) (c - k1) _ _ hs2.len hcell).mono ?_
  rw [HUd.out, hk2.out]
  have hyy : ((y.toNat : Nat) : Int) = y := by omega
  rw [hyy]
  rintro e w' ⟨rfl, rfl⟩
  clear hs2 hcell hyy
  have hc2 : ¬ c - k1 = k2 := by omega
  go_wp2_with fail
  go_region
  all_goals go_end0
  refine ⟨rfl, o + k1 + k2, n - k1 - k2, c - k1 - k2, ?_, ?_, ?_⟩
  · exact ((((((HI.out.s1 _).s0 _ _ _).s5 _).s4 _).s0 _ _ _).s2 _).drew
  · exact (((((((HS2.out.cutL hk2.out hc2).set_ne (p := ⟨g, 1, none⟩) hbg _).set_ne (p := ⟨g, 0, none⟩) hbg _).set_ne (p := ⟨g, 5, none⟩) hbg _).set_ne (p := ⟨g, 4, none⟩) hbg _).set_ne (p := ⟨g, 0, none⟩) hbg _).set_ne (p := ⟨g, 2, none⟩) hbg _).drew
  · exact ((((((KeptG.set g 1 _).trans (KeptG.set g 0 _)).trans (KeptG.set g 5 _)).trans (KeptG.set g 4 _)).trans (KeptG.set g 0 _)).trans (KeptG.set g 2 _)).drew
theorem next_z (g n c b o B : Nat) (pc nxt sc val d y m : Int) (rest : List UInt8) (k1 k2 : Nat) (w : World) (HI : Hid (It w g (some ⟨b, o, none⟩) n c pc nxt sc val true false)) (hs : Hid (Sl w B (some ⟨b, o, none⟩) n c (Lib.uvarint (Lib.zigzag d) ++ (Lib.uvarint y.toNat ++ rest)))) (hbg : b ≠ g)
    (d0 : -2147483648 ≤ d) (d1 : d ≤ 2147483647) (y0 : 0 ≤ y) (y1 : y < 4294967296) (hk1 : Hid ((Lib.uvarint (Lib.zigzag d)).length = k1)) (hk2 : Hid ((Lib.uvarint y.toNat).length = k2)) (a1 : 1 ≤ k1) (a2 : 1 ≤ k2) (a3 : k1 + k2 < n) (a4 : n ≤ c) (a5 : c ≤ 9223372036854775807)
    (e0 : (d == 0) = true) (hm : y * sc % 4294967296 = m) (n0 : 0 ≤ nxt) (n1 : nxt + m < 4294967296) (m0 : 0 ≤ m) :
    Calls Try.prog 30 #[.pointer (some ⟨g, 0, none⟩)] w (NextPost w g b B nxt (nxt + m) sc (wrap32 (val + d)) rest) := by
  have g0 := HI.out.c0
  have g1 := HI.out.c1
  have g2 := HI.out.c2
  have g3 := HI.out.c3
  have g4 := HI.out.c4
  have g5 := HI.out.c5
  have g6 := HI.out.c6
  have f0 := HI.out.fr 0
  have f1 := HI.out.fr 1
  have f2 := HI.out.fr 2
  have f4 := HI.out.fr 4
  have f5 := HI.out.fr 5
  have f6 := HI.out.fr 6
  have hz0 : ((n : Int) == 0) = false := by simp; omega
  have hVd := vd d (Lib.uvarint y.toNat ++ rest) (by have := uv_len (Lib.zigzag d) (by unfold Lib.zigzag; split <;> omega); omega)
  have HVd := Lib.hid hVd
  have hUd := uvd y.toNat rest (by have := uv_len y.toNat (by omega); omega)
  have HUd := Lib.hid hUd
  clear hVd hUd
  go_enter Try.func30, Try.ntmps30
  go_wp2_with fail
  have hs1 := hs.out.set_ne (p := ⟨g, 1, none⟩) hbg (.int .u32 nxt)
  obtain ⟨_, _, e, _, hcell⟩ := hs1.at_ (k := 0) (by omega)
  cases e
  refine (Try.binary_Varint b o n c _ _ hs1.len hcell).mono ?_
  rw [HVd.out, hk1.out]
  rintro e w' ⟨rfl, rfl⟩
  clear hs1 hcell
  have hc1 : ¬ c = k1 := by omega
  have HS2 := Lib.hid (hs.out.cutL hk1.out hc1)
  go_wp2_with fail
  have hs2 := (((HS2.out.set_ne (p := ⟨g, 1, none⟩) hbg (.int .u32 nxt)).set_ne (p := ⟨g, 0, none⟩) hbg (.slice (some ⟨b, o + k1, none⟩) (n - k1) (c - k1))).set_ne (p := ⟨g, 5, none⟩) hbg (.bool false)).set_ne (p := ⟨g, 4, none⟩) hbg (.int .i32 (wrap32 (val + d)))
  obtain ⟨_, _, e, _, hcell⟩ := hs2.at_ (k := 0) (by omega)
  cases e
  refine (Try.binary_Uvarint b (o + k1) (n - k1) (c - k1) _ _ hs2.len hcell).mono ?_
  rw [HUd.out, hk2.out]
  have hyy : ((y.toNat : Nat) : Int) = y := by omega
  rw [hyy]
  rintro e w' ⟨rfl, rfl⟩
  clear hs2 hcell hyy
  have hc2 : ¬ c - k1 = k2 := by omega
  go_wp2_with fail
  go_region
  all_goals go_end0
  refine ⟨rfl, o + k1 + k2, n - k1 - k2, c - k1 - k2, ?_, ?_, ?_⟩
  · exact ((((((HI.out.s1 _).s0 _ _ _).s5 _).s4 _).s0 _ _ _).s2 _).drew
  · exact (((((((HS2.out.cutL hk2.out hc2).set_ne (p := ⟨g, 1, none⟩) hbg _).set_ne (p := ⟨g, 0, none⟩) hbg _).set_ne (p := ⟨g, 5, none⟩) hbg _).set_ne (p := ⟨g, 4, none⟩) hbg _).set_ne (p := ⟨g, 0, none⟩) hbg _).set_ne (p := ⟨g, 2, none⟩) hbg _).drew
  · exact ((((((KeptG.set g 1 _).trans (KeptG.set g 0 _)).trans (KeptG.set g 5 _)).trans (KeptG.set g 4 _)).trans (KeptG.set g 0 _)).trans (KeptG.set g 2 _)).drew

theorem next_any (g n c b o B : Nat) (pc nxt sc val d y m : Int) (st : Bool) (rest : List UInt8) (w : World) (hI : It w g (some ⟨b, o, none⟩) n c pc nxt sc val st false) (hs : Sl w B (some ⟨b, o, none⟩) n c (Lib.uvarint (Lib.zigzag d) ++ (Lib.uvarint y.toNat ++ rest))) (hbg : b ≠ g) (hr : rest ≠ [])
    (d0 : -2147483648 ≤ d) (d1 : d ≤ 2147483647) (y0 : 0 ≤ y) (y1 : y < 4294967296) (hf : d ≠ 0 ∨ st = true) (hm : y * sc % 4294967296 = m) (n0 : 0 ≤ nxt) (n1 : nxt + m < 4294967296) :
    Calls Try.prog 30 #[.pointer (some ⟨g, 0, none⟩)] w (NextPost w g b B nxt (nxt + m) sc (wrap32 (val + d)) rest) := by
  have hlen := hs.len
  have hrl : 1 ≤ rest.length := by cases rest with | nil => exact absurd rfl hr | cons a t => simp
  have l1 := Lib.uvarint_pos (Lib.zigzag d)
  have l2 := Lib.uvarint_pos y.toNat
  simp only [List.length_append] at hlen
  by_cases h0 : d = 0
  · have hst : st = true := hf.resolve_left (fun h => h h0)
    subst hst
    exact next_z g n c b o B pc nxt sc val d y m rest _ _ w (Lib.hid hI) (Lib.hid hs) hbg d0 d1 y0 y1 (Lib.hid rfl) (Lib.hid rfl) l1 l2 (by omega) hs.cap hs.mx (by simpa using h0) hm n0 n1 (by omega)
  · exact next_nz g n c b o B pc nxt sc val d y m st rest _ _ w (Lib.hid hI) (Lib.hid hs) hbg d0 d1 y0 y1 (Lib.hid rfl) (Lib.hid rfl) l1 l2 (by omega) hs.cap hs.mx (by simpa using h0) hm n0 n1 (by omega)

def NextEnd (w : World) (g : Nat) (nxt sc val : Int) (e : Ending) (w' : World) : Prop :=
  e = .returned (.tuple #[]) ∧ ∃ A n c, It w' g A n c nxt nxt sc val false true ∧ KeptG w w' g
theorem uv0' : Lib.uvarint 0 = [0] := by rw [Lib.uvarint_small (by omega)]; rfl
theorem results_none {fn : Func} (h : fn.results = #[]) (tmps : Array Value) (P : Program) (w : World) : (results fn tmps).run P w = .ok (.tuple #[]) w := by simp [results, h]
theorem vd0 (rest : List UInt8) : Lib.varintDec (0 :: rest) = (0, 1) := by
  have h := vd 0 rest (by rw [show Lib.zigzag 0 = 0 from rfl, uv0']; simp)
  rw [show Lib.zigzag 0 = 0 from rfl, uv0'] at h
  exact h
theorem next_end (g n c b o B : Nat) (pc nxt sc val : Int) (rest : List UInt8) (w : World) (HI : Hid (It w g (some ⟨b, o, none⟩) n c pc nxt sc val false false)) (hs : Hid (Sl w B (some ⟨b, o, none⟩) n c (0 :: rest))) (hbg : b ≠ g) (a3 : 1 ≤ n) (a4 : n ≤ c) (a5 : c ≤ 9223372036854775807) :
    Calls Try.prog 30 #[.pointer (some ⟨g, 0, none⟩)] w (NextEnd w g nxt sc val) := by
  have g0 := HI.out.c0
  have g1 := HI.out.c1
  have g2 := HI.out.c2
  have g5 := HI.out.c5
  have g6 := HI.out.c6
  have f0 := HI.out.fr 0
  have f1 := HI.out.fr 1
  have f6 := HI.out.fr 6
  have hz0 : ((n : Int) == 0) = false := by simp; omega
  by_cases hc : c = 1
  all_goals
    have HC := Lib.hid hc
    try clear hc
    go_enter Try.func30, Try.ntmps30
    go_wp2_with fail
    have hs1 := hs.out.set_ne (p := ⟨g, 1, none⟩) hbg (.int .u32 nxt)
    obtain ⟨_, _, e, _, hcell⟩ := hs1.at_ (k := 0) (by omega)
    cases e
    refine (Try.binary_Varint b o n c _ _ hs1.len hcell).mono ?_
    rw [vd0]
    rintro e w' ⟨rfl, rfl⟩
    clear hs1 hcell
    have hc := HC.out
    go_wp2
    refine bodyPost_ret (results_none rfl _ _ _) rfl ?_
    exact ⟨rfl, _, _, _, ((HI.out.s1 _).s0 _ _ _).s6 _, ((KeptG.set g 1 _).trans (KeptG.set g 0 _)).trans (KeptG.set g 6 _)⟩
end Go.Proofs.Ytmadidaiaggheaa
