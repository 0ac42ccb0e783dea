/- The contract of ZZTable. -/
import Derived.Test.YtmadidaiaggheaaFt
import Derived.Test.YtmadidaiaggheaaNumsR
namespace Go.Proofs.Ytmadidaiaggheaa
open Go.RowKit
set_option linter.unusedVariables false

def lastP (G : Nat) : Nat → Option Addr
  | 0 => none
  | j + 1 => some ⟨G + j, 0, none⟩

/-- The list of the first k instructions. -/
structure ZtI (w0 : World) (gb gh gf G k : Nat) (vb vh : Value) (pcs : List Int) (size : Int) (W : World) : Prop where
  below : Below w0.heap.size w0 W
  sz : W.heap.size = G + k
  hb : W.heap[gb]? = some (.cells #[vb] 27 (0, 0))
  hh : W.heap[gh]? = some (.cells #[vh] 27 (0, 0))
  hf : W.heap[gf]? = some (.cells #[.pointer (nxt k G 0)] 64 (0, 0))
  pr : ∀ i, i < k → W.heap[G + i]? = some (.cells #[.int .i64 (pAt pcs size i), .pointer (nxt k G (i + 1)), .int .i64 i] 66 (0, 0))
  l1 : gb < gf
  l2 : gh < gf
  l3 : gf < G
  l4 : w0.heap.size ≤ gf

section
variable {w0 W : World} {gb gh gf G : Nat} {vb vh : Value} {pcs : List Int} {size : Int}
theorem size_set (W : World) (p : Addr) (v : Value) : (W.setCell p v).heap.size = W.heap.size := by simp [World.setCell]
theorem ZtI.first (h : ZtI w0 gb gh gf G 0 vb vh pcs size W) : ZtI w0 gb gh gf G 1 vb vh pcs size ((W.setCell ⟨gf, 0, none⟩ (.pointer (some ⟨G, 0, none⟩))).alloc (.cells #[.int .i64 (pAt pcs size 0), .pointer none, .int .i64 0] 66)) := by
  have hl1 := h.l1; have hl2 := h.l2; have hl3 := h.l3; have hl4 := h.l4; have hsz := h.sz
  have zS := size_set W ⟨gf, 0, none⟩ (.pointer (some ⟨G, 0, none⟩))
  refine ⟨(h.below.setCell hl4 _).alloc (by rw [zS]; omega) _, by simp [World.setCell]; omega, ?_, ?_, ?_, fun i hi => ?_, hl1, hl2, hl3, hl4⟩
  · rw [Below.heap_alloc _ _ _ (by rw [zS]; omega), Below.heap_setCell _ _ _ _ (by show gb ≠ gf; omega)]; exact h.hb
  · rw [Below.heap_alloc _ _ _ (by rw [zS]; omega), Below.heap_setCell _ _ _ _ (by show gh ≠ gf; omega)]; exact h.hh
  · rw [Below.heap_alloc _ _ _ (by rw [zS]; omega)]
    have h2 := heap_set h.hf 0 (.pointer (some ⟨G, 0, none⟩))
    exact h2
  · obtain rfl : i = 0 := by omega
    have h1 := heap_alloc_new (W.setCell ⟨gf, 0, none⟩ (.pointer (some ⟨G, 0, none⟩))) (.cells #[.int .i64 (pAt pcs size 0), .pointer none, .int .i64 0] 66)
    rw [zS, hsz] at h1
    exact h1
theorem ZtI.next {j : Nat} (h : ZtI w0 gb gh gf G (j + 1) vb vh pcs size W) : ZtI w0 gb gh gf G (j + 1 + 1) vb vh pcs size ((W.setCell ⟨G + j, 1, none⟩ (.pointer (some ⟨G + (j + 1), 0, none⟩))).alloc (.cells #[.int .i64 (pAt pcs size (j + 1)), .pointer none, .int .i64 ((j + 1 : Nat) : Int)] 66)) := by
  have hl1 := h.l1; have hl2 := h.l2; have hl3 := h.l3; have hl4 := h.l4; have hsz := h.sz
  have zS := size_set W ⟨G + j, 1, none⟩ (.pointer (some ⟨G + (j + 1), 0, none⟩))
  refine ⟨(h.below.setCell (show w0.heap.size ≤ G + j by omega) _).alloc (by rw [zS]; omega) _, by simp [World.setCell]; omega, ?_, ?_, ?_, fun i hi => ?_, hl1, hl2, hl3, hl4⟩
  · rw [Below.heap_alloc _ _ _ (by rw [zS]; omega), Below.heap_setCell _ _ _ _ (by show gb ≠ G + j; omega)]; exact h.hb
  · rw [Below.heap_alloc _ _ _ (by rw [zS]; omega), Below.heap_setCell _ _ _ _ (by show gh ≠ G + j; omega)]; exact h.hh
  · rw [Below.heap_alloc _ _ _ (by rw [zS]; omega), Below.heap_setCell _ _ _ _ (by show gf ≠ G + j; omega)]
    have e : nxt (j + 1) G 0 = nxt (j + 1 + 1) G 0 := by unfold nxt; rw [if_pos (by omega), if_pos (by omega)]
    rw [← e]; exact h.hf
  · rcases Nat.lt_or_ge i (j + 1) with hlt | hge
    · rw [Below.heap_alloc _ _ _ (by rw [zS]; omega)]
      have h1 := h.pr i hlt
      rcases Nat.lt_or_ge i j with h2 | h2
      · rw [Below.heap_setCell _ _ _ _ (by show G + i ≠ G + j; omega), h1]
        have e : nxt (j + 1) G (i + 1) = nxt (j + 1 + 1) G (i + 1) := by unfold nxt; rw [if_pos (by omega), if_pos (by omega)]
        rw [e]
      · obtain rfl : i = j := by omega
        have h3 := heap_set h1 1 (.pointer (some ⟨G + (i + 1), 0, none⟩))
        rw [h3]
        have e : nxt (i + 1 + 1) G (i + 1) = some ⟨G + (i + 1), 0, none⟩ := if_pos (by omega)
        rw [e]
        rfl
    · obtain rfl : i = j + 1 := by omega
      have h1 := heap_alloc_new (W.setCell ⟨G + j, 1, none⟩ (.pointer (some ⟨G + (j + 1), 0, none⟩))) (.cells #[.int .i64 (pAt pcs size (j + 1)), .pointer none, .int .i64 ((j + 1 : Nat) : Int)] 66)
      rw [zS, hsz] at h1
      have e : nxt (j + 1 + 1) G (j + 1 + 1) = none := if_neg (by omega)
      rw [e]
      exact h1
end

def ZtRel (w0 : World) (n gb gh gf G : Nat) (vb vh : Value) (pcs : List Int) (size : Int) (vl vi : Value) (wr : World) : Prop :=
  ∃ k : Nat, vi = .int .i64 k ∧ k ≤ n ∧ vl = .pointer (lastP G k) ∧ ZtI w0 gb gh gf G k vb vh pcs size wr

theorem vAt_get {l : List Int} {i : Nat} (h : i < l.length) : vAt l i = l[i] := by unfold vAt; rw [List.getElem?_eq_getElem h]; rfl
theorem pAt_get {l : List Int} {s : Int} {i : Nat} (h : i < l.length) : pAt l s i = l[i] := by unfold pAt; rw [List.getElem?_eq_getElem h]; rfl

set_option maxRecDepth 100000 in
set_option maxHeartbeats 2000000 in
theorem zztable_any (B n c c1 c2 : Nat) (A A1 A2 : Option Addr) (pcs before behind : List Int) (size m : Int) (w : World) (hs : Hid (SlN w B .i64 A n c pcs)) (h1 : Hid (SlN w B .i32 A1 n c1 before)) (h2 : Hid (SlN w B .i32 A2 n c2 behind)) (hB : B ≤ w.heap.size)
    (HC : Hid (Code pcs size before m)) (hn : n ≤ 2147483647) :
    Calls Try.prog 22 #[.slice A n c, .int .i64 size, .slice A1 n c1, .slice A2 n c2, .int .i64 m] w (Gives8 w (tableB (-1) (piecesOf pcs size before m))) := by
  have HNp : Hid (pcs.length = n) := Lib.hid hs.out.len
  have hn1 : 1 ≤ n := by have := HC.out.n1; have := HNp.out; omega
  obtain ⟨b, o, rfl, hb, hcell⟩ := hs.out.at_ hn1
  obtain ⟨bA, oA, rfl, hbA, hcA⟩ := h1.out.at_ hn1
  obtain ⟨bB, oB, rfl, hbB, hcB⟩ := h2.out.at_ hn1
  have HP : Hid (∀ i, i < n → w.cell? ⟨b, o + i, none⟩ = some (.int .i64 (pAt pcs size i))) := Lib.hid fun i hi => by rw [pAt_get (by have := HNp.out; omega)]; exact hcell i _
  have HA : Hid (∀ i, i < n → w.cell? ⟨bA, oA + i, none⟩ = some (.int .i32 (vAt before i))) := Lib.hid fun i hi => by rw [vAt_get (by have := h1.out.len; omega)]; exact hcA i _
  have HBh : Hid (∀ i, i < n → w.cell? ⟨bB, oB + i, none⟩ = some (.int .i32 (vAt behind i))) := Lib.hid fun i hi => by rw [vAt_get (by have := h2.out.len; omega)]; exact hcB i _
  have HI0 : Hid (ZtI w w.heap.size (w.heap.size + 1) (w.heap.size + 1 + 1) (w.heap.size + 1 + 1 + 1) 0 (.slice (some ⟨bA, oA, none⟩) n c1) (.slice (some ⟨bB, oB, none⟩) n c2) pcs size
      (((w.alloc (.cells #[.slice (some ⟨bA, oA, none⟩) n c1] 27)).alloc (.cells #[.slice (some ⟨bB, oB, none⟩) n c2] 27)).alloc (.cells #[.pointer none] 64))) := Lib.hid (by
    have e1 := heap_alloc_new w (.cells #[.slice (some ⟨bA, oA, none⟩) n c1] 27)
    have e2 := heap_alloc_new (w.alloc (.cells #[.slice (some ⟨bA, oA, none⟩) n c1] 27)) (.cells #[.slice (some ⟨bB, oB, none⟩) n c2] 27)
    have e3 := heap_alloc_new ((w.alloc (.cells #[.slice (some ⟨bA, oA, none⟩) n c1] 27)).alloc (.cells #[.slice (some ⟨bB, oB, none⟩) n c2] 27)) (.cells #[.pointer none] 64)
    have z1 : (w.alloc (.cells #[.slice (some ⟨bA, oA, none⟩) n c1] 27)).heap.size = w.heap.size + 1 := by simp
    have z2 : ((w.alloc (.cells #[.slice (some ⟨bA, oA, none⟩) n c1] 27)).alloc (.cells #[.slice (some ⟨bB, oB, none⟩) n c2] 27)).heap.size = w.heap.size + 1 + 1 := by simp
    rw [z1] at e2
    rw [z2] at e3
    refine ⟨(((Below.refl _ _).alloc (Nat.le_refl _) _).alloc (by omega) _).alloc (by omega) _, by simp, ?_, ?_, e3, fun i hi => by omega, by omega, by omega, by omega, by omega⟩
    · rw [Below.heap_alloc _ _ _ (by omega), Below.heap_alloc _ _ _ (by omega)]; exact e1
    · rw [Below.heap_alloc _ _ _ (by omega)]; exact e2)
  have hbw : b < w.heap.size := by omega
  have HbA : Hid (bA < w.heap.size) := Lib.hid (by omega)
  have HbB : Hid (bB < w.heap.size) := Lib.hid (by omega)
  have hmf : ∀ (fn : Fn) (first cap : Array Value) (w : World), (Instr.makeFunc fn first cap).run Try.prog w = .ok (.func fn first cap) w := fun _ _ _ _ => rfl
  clear hcell hcA hcB hbA hbB hb
  go_enter Try.func22, Try.ntmps22
  go_wp2
  generalize w.heap.size + 1 + 1 + 1 = G at *
  generalize w.heap.size + 1 + 1 = gf at *
  generalize w.heap.size + 1 = gh at *
  go_loopw [12, 20] (fun vl vi wr => ZtRel w n w.heap.size gh gf G (.slice (some ⟨bA, oA, none⟩) n c1) (.slice (some ⟨bB, oB, none⟩) n c2) pcs size vl vi wr) (fun _ vi _ => n - (intOf vi).toNat)
  case atStart => exact ⟨0, rfl, Nat.zero_le _, rfl, HI0.out⟩
  case round =>
    obtain ⟨k, rfl, hk, rfl, hI⟩ := hrel
    have HI := Lib.hid hI
    clear hI HI0
    by_cases hlt : k < n
    · have p1 := (HI.out.below.cell (p := ⟨b, o + k, none⟩) hbw).trans (HP.out k hlt)
      cases k with
      | zero =>
        have hz : gf < wr.heap.size := by have := HI.out.sz; have := HI.out.l3; omega
        have k1 : wr.cell? ⟨gf, 0, none⟩ = some (.pointer none) := cell_of_row wr gf 0 _ _ _ HI.out.hf
        have k2 := free_row HI.out.hf 0
        have hI1 := Lib.hid HI.out.first
        have HSZ := Lib.hid HI.out.sz
        obtain ⟨pk, hpk⟩ : ∃ pk, pAt pcs size 0 = pk := ⟨_, rfl⟩
        rw [hpk] at p1 hI1
        simp only [Nat.add_zero] at p1
        clear hpk
        go_wp2
        go_roundw
        case rel => exact ⟨1, rfl, by omega, by have := HSZ.out; simp only [Nat.add_zero] at this; rw [this]; rfl, by have := HSZ.out; simp only [Nat.add_zero] at this; rw [this]; exact hI1.out⟩
        case measure => simp [intOf]; omega
      | succ j =>
        have hz : G + j < wr.heap.size := by have := HI.out.sz; omega
        have hpj := HI.out.pr j (by omega)
        have k1 : wr.cell? ⟨G + j, 1, none⟩ = some (.pointer (nxt (j + 1) G (j + 1))) := cell_of_row wr (G + j) 1 _ _ _ hpj
        have k2 := free_row hpj 1
        have hx : lastP G (j + 1) = some ⟨G + j, 0, none⟩ := rfl
        rw [hx]
        have hI1 := Lib.hid HI.out.next
        have HSZ := Lib.hid HI.out.sz
        obtain ⟨pk, hpk⟩ : ∃ pk, pAt pcs size (j + 1) = pk := ⟨_, rfl⟩
        rw [hpk] at p1 hI1
        clear hpk hpj hx
        go_wp2
        go_roundw
        case rel => exact ⟨j + 1 + 1, by go_num, by omega, by rw [HSZ.out]; rfl, by rw [HSZ.out]; exact hI1.out⟩
        case measure => simp [intOf]; omega
    · obtain rfl : k = n := by omega
      have HPM : Hid (PM (((wr.alloc (.cells #[.int .i64 m] 75)).alloc (.cells #[.pointer (some ⟨wr.heap.size, 0, none⟩)] 77)).alloc (.cells #[.int .i64 size, .slice none 0 0, .pointer (some ⟨gf, 0, none⟩)] 71))
          (((wr.alloc (.cells #[.int .i64 m] 75)).alloc (.cells #[.pointer (some ⟨wr.heap.size, 0, none⟩)] 77)).alloc (.cells #[.int .i64 size, .slice none 0 0, .pointer (some ⟨gf, 0, none⟩)] 71)).heap.size
          k (wr.heap.size + 1) wr.heap.size (wr.heap.size + 1 + 1) gf G w.heap.size gh bA oA c1 bB oB c2 pcs size m before behind) := Lib.hid (by
        have hI := HI.out
        have hsz := hI.sz; have hl1 := hI.l1; have hl2 := hI.l2; have hl3 := hI.l3
        have z1 : (wr.alloc (.cells #[.int .i64 m] 75)).heap.size = wr.heap.size + 1 := by simp
        have z2 : ((wr.alloc (.cells #[.int .i64 m] 75)).alloc (.cells #[.pointer (some ⟨wr.heap.size, 0, none⟩)] 77)).heap.size = wr.heap.size + 1 + 1 := by simp
        have z3 : (((wr.alloc (.cells #[.int .i64 m] 75)).alloc (.cells #[.pointer (some ⟨wr.heap.size, 0, none⟩)] 77)).alloc (.cells #[.int .i64 size, .slice none 0 0, .pointer (some ⟨gf, 0, none⟩)] 71)).heap.size = wr.heap.size + 1 + 1 + 1 := by simp
        have hbel : Below wr.heap.size wr (((wr.alloc (.cells #[.int .i64 m] 75)).alloc (.cells #[.pointer (some ⟨wr.heap.size, 0, none⟩)] 77)).alloc (.cells #[.int .i64 size, .slice none 0 0, .pointer (some ⟨gf, 0, none⟩)] 71)) :=
          (((Below.refl _ _).alloc (Nat.le_refl _) _).alloc (by omega) _).alloc (by omega) _
        have e1 := heap_alloc_new wr (.cells #[.int .i64 m] 75)
        have e2 := heap_alloc_new (wr.alloc (.cells #[.int .i64 m] 75)) (.cells #[.pointer (some ⟨wr.heap.size, 0, none⟩)] 77)
        have e3 := heap_alloc_new ((wr.alloc (.cells #[.int .i64 m] 75)).alloc (.cells #[.pointer (some ⟨wr.heap.size, 0, none⟩)] 77)) (.cells #[.int .i64 size, .slice none 0 0, .pointer (some ⟨gf, 0, none⟩)] 71)
        rw [← Below.heap_alloc (wr.alloc (.cells #[.int .i64 m] 75)) (.cells #[.pointer (some ⟨wr.heap.size, 0, none⟩)] 77) _ (by omega), ← Below.heap_alloc ((wr.alloc (.cells #[.int .i64 m] 75)).alloc (.cells #[.pointer (some ⟨wr.heap.size, 0, none⟩)] 77)) (.cells #[.int .i64 size, .slice none 0 0, .pointer (some ⟨gf, 0, none⟩)] 71) _ (by omega)] at e1
        rw [z1] at e2
        rw [← Below.heap_alloc ((wr.alloc (.cells #[.int .i64 m] 75)).alloc (.cells #[.pointer (some ⟨wr.heap.size, 0, none⟩)] 77)) (.cells #[.int .i64 size, .slice none 0 0, .pointer (some ⟨gf, 0, none⟩)] 71) _ (by omega)] at e2
        rw [z2] at e3
        have hwb := HI.out.below.size
        have hN0 : nxt k G 0 = some ⟨G, 0, none⟩ := if_pos (by omega)
        have hf := hI.hf
        rw [hN0] at hf
        exact ⟨cell_of_row _ _ 0 _ _ _ e2, cell_of_row _ _ 0 _ _ _ e1, cell_of_row _ _ 0 _ _ _ e3, cell_of_row _ _ 2 _ _ _ e3, (hbel.cell (p := ⟨gf, 0, none⟩) (by show gf < _; omega)).trans (cell_of_row _ _ 0 _ _ _ hf),
          fun i hi => ⟨(hbel.cell (p := ⟨G + i, 0, none⟩) (by show G + i < _; omega)).trans (cell_of_row _ _ 0 _ _ _ (hI.pr i hi)), (hbel.cell (p := ⟨G + i, 1, none⟩) (by show G + i < _; omega)).trans (cell_of_row _ _ 1 _ _ _ (hI.pr i hi)), (hbel.cell (p := ⟨G + i, 2, none⟩) (by show G + i < _; omega)).trans (cell_of_row _ _ 2 _ _ _ (hI.pr i hi))⟩,
          (hbel.cell (p := ⟨w.heap.size, 0, none⟩) (by show w.heap.size < _; omega)).trans (cell_of_row _ _ 0 _ _ _ hI.hb), fun i hi => (hbel.cell (p := ⟨bA, oA + i, none⟩) (by have := HbA.out; show bA < _; omega)).trans ((hI.below.cell (p := ⟨bA, oA + i, none⟩) HbA.out).trans (HA.out i hi)),
          (hbel.cell (p := ⟨gh, 0, none⟩) (by show gh < _; omega)).trans (cell_of_row _ _ 0 _ _ _ hI.hh), fun i hi => (hbel.cell (p := ⟨bB, oB + i, none⟩) (by have := HbB.out; show bB < _; omega)).trans ((hI.below.cell (p := ⟨bB, oB + i, none⟩) HbB.out).trans (HBh.out i hi)),
          by omega, by omega, by omega, by omega, by omega, by omega, by omega, by have := HbA.out; omega, by have := HbB.out; omega⟩)
      have HBx : Hid (Below w.heap.size w (((wr.alloc (.cells #[.int .i64 m] 75)).alloc (.cells #[.pointer (some ⟨wr.heap.size, 0, none⟩)] 77)).alloc (.cells #[.int .i64 size, .slice none 0 0, .pointer (some ⟨gf, 0, none⟩)] 71))) := Lib.hid
        (((HI.out.below.alloc HI.out.below.size _).alloc (by simp; have := HI.out.below.size; omega) _).alloc (by simp; have := HI.out.below.size; omega) _)
      go_wp2_with fail
      refine (functab_any k _ _ _ gf G _ gh bA oA c1 bB oB c2 pcs size m before behind _ HPM HC HNp (Lib.hid hn) hn1).mono ?_
      rintro e w4 ⟨gsym, v, rfl, hc4, hown4, hb4⟩
      have HO4 := Lib.hid (hown4.mono HBx.out.size)
      have HB4 := Lib.hid (HBx.out.trans (hb4.mono HBx.out.size))
      clear hown4 hb4
      go_wp2
      go_ret
      exact ⟨v, rfl, HO4.out, HB4.out⟩
end Go.Proofs.Ytmadidaiaggheaa
