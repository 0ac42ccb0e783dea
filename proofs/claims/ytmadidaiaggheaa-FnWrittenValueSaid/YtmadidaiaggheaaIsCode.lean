/- The contract of the reference's IsCode. -/
import Derived.Test.YtmadidaiaggheaaNumsR
import Derived.Test.YtmadidaiaggheaaPlW
namespace Go.Proofs.Ytmadidaiaggheaa
open Go.RowKit
set_option linter.unusedVariables false

/-- What 'IsCode' tells. -/
def CodeB (pcs : List Int) (size : Int) (before behind : List Int) (m : Int) : Prop := Code pcs size before m ∧ behind.length = pcs.length
def IsCodePost (w : World) (pcs : List Int) (size : Int) (before behind : List Int) (m : Int) (e : Ending) (w' : World) : Prop := ∃ r : Bool, e = .returned (.bool r) ∧ (r = true → CodeB pcs size before behind m) ∧ Below w.heap.size w w'

/-- The first k places do not fall, and m divides them. -/
def IcInv (pcs : List Int) (size m : Int) (k : Nat) : Prop := ∀ j, 1 ≤ j → j < k → pAt pcs size (j - 1) ≤ pAt pcs size j ∧ pAt pcs size j % m = 0
theorem IcInv.nonneg {pcs : List Int} {size m : Int} {k : Nat} (h : IcInv pcs size m k) (h0 : pAt pcs size 0 = 0) : ∀ j, j < k → 0 ≤ pAt pcs size j := by
  intro j
  induction j with
  | zero => intro _; omega
  | succ j ih => intro hj; have h1 := (h (j + 1) (by omega) hj).1; have h2 := ih (by omega); rw [show j + 1 - 1 = j by omega] at h1; omega
theorem code_of {pcs before : List Int} {size m : Int} {N : Nat} (hN : pcs.length = N + 1) (hb : before.length = N + 1) (m1 : 1 ≤ m) (m2 : m ≤ 16) (h0 : pAt pcs size 0 = 0) (hl : pAt pcs size N < size) (hs : size < 2147483648)
    (hd : size.tmod m = 0) (hv : ∀ z ∈ before, inI32 z) (h : IcInv pcs size m (N + 1)) : Code pcs size before m := by
  have hnn := h.nonneg h0
  have he : pAt pcs size (N + 1) = size := by rw [← hN]; exact pAt_end pcs size
  have hs0 : 0 ≤ size := by have := hnn N (by omega); omega
  refine ⟨by omega, by omega, m1, m2, h0, fun i hi => ?_, by rw [hN]; exact hl, hs, fun i hi => ?_, hv⟩
  · rcases Nat.lt_or_ge (i + 1) (N + 1) with h1 | h1
    · have := (h (i + 1) (by omega) h1).1
      rwa [show i + 1 - 1 = i by omega] at this
    · rw [show i = N by omega, he]; omega
  · rcases Nat.lt_or_ge i (N + 1) with h1 | h1
    · rcases Nat.eq_zero_or_pos i with rfl | h2
      · rw [h0]; exact Int.zero_emod m
      · exact (h i h2 h1).2
    · rw [show i = N + 1 by omega, he, ← Int.tmod_eq_emod_of_nonneg hs0]; exact hd

def IcRel (w : World) (N : Nat) (pcs : List Int) (size m : Int) (vi : Value) (wr : World) : Prop := ∃ k : Nat, vi = .int .i64 k ∧ 1 ≤ k ∧ k ≤ N + 1 ∧ IcInv pcs size m k ∧ ∃ q, wr = w.drewN q

set_option maxHeartbeats 1000000 in
theorem isCode_main (b o c c1 c2 N : Nat) (A1 A2 : Option Addr) (pcs before behind : List Int) (size m p0 pl : Int) (w : World)
    (HC : Hid (∀ j, j < N + 1 → w.cell? ⟨b, o + j, none⟩ = some (.int .i64 (pAt pcs size j)))) (HN : Hid (pcs.length = N + 1)) (HB : Hid (before.length = N + 1)) (HH : Hid (behind.length = N + 1)) (HV : Hid (∀ z ∈ before, inI32 z)) (hn : N + 1 ≤ 9223372036854775807)
    (HP0 : Hid (pAt pcs size 0 = p0)) (HPL : Hid (pAt pcs size N = pl))
    (q0 : w.cell? ⟨b, o, none⟩ = some (.int .i64 p0)) (q1 : w.cell? ⟨b, o + N, none⟩ = some (.int .i64 pl)) (m1 : 1 ≤ m) (m2 : m ≤ 16) (g1 : (((N : Nat) : Int) + 1 == 0) = false) (g3 : ((N + 1 : Nat) : Int) - 1 = (N : Int))
    (e0 : (p0 != 0) = false) (e1 : decide (size ≤ pl) = false) (e2 : decide (2147483648 ≤ size) = false) (s0 : -9223372036854775808 ≤ size) (s1 : size ≤ 9223372036854775807) :
    Calls Try.prog 12 #[.slice (some ⟨b, o, none⟩) (N + 1) c, .int .i64 size, .slice A1 (N + 1) c1, .slice A2 (N + 1) c2, .int .i64 m] w (IsCodePost w pcs size before behind m) := by
  have i0 : (0 : Int) ≤ (N : Int) := by omega
  have i1 : (N : Int) < ((N + 1 : Nat) : Int) := by omega
  have i2 : (0 : Int) < ((N + 1 : Nat) : Int) := by omega
  by_cases hd : size.tmod m = 0
  · have e3 : (size.tmod m != 0) = false := by simpa using hd
    have HD := Lib.hid hd
    have HE0 := Lib.hid e0
    have HE1 := Lib.hid e1
    have HE2 := Lib.hid e2
    clear hd
    go_enter Try.func12, Try.ntmps12
    go_wp2
    clear e0 e1 e2 e3 q0 q1
    go_loopw [12] (fun vi wr => IcRel w N pcs size m vi wr) (fun vi _ => N + 1 - (intOf vi).toNat)
    case atStart => exact ⟨1, rfl, Nat.le_refl _, by omega, fun j h1 h2 => by omega, 0, rfl⟩
    case round =>
      obtain ⟨k, rfl, hk1, hk, hinv, q, rfl⟩ := hrel
      have HI := Lib.hid hinv
      clear hinv
      obtain ⟨j, rfl⟩ : ∃ j, k = j + 1 := ⟨k - 1, by omega⟩
      by_cases hlt : j + 1 < N + 1
      · have r1 := HC.out (j + 1) hlt
        have r2 := HC.out j (by omega)
        have hnn := HI.out.nonneg (by rw [HP0.out]; simpa using HE0.out) j (by omega)
        obtain ⟨x, hx⟩ : ∃ x, pAt pcs size (j + 1) = x := ⟨_, rfl⟩
        obtain ⟨y, hy⟩ : ∃ y, pAt pcs size j = y := ⟨_, rfl⟩
        rw [hx] at r1
        rw [hy] at r2 hnn
        have HX := Lib.hid hx
        have HY := Lib.hid hy
        have r0 : (0 : Int) ≤ ((j + 1 : Nat) : Int) := by omega
        have r00 : ((j + 1 : Nat) : Int) < ((N + 1 : Nat) : Int) := by omega
        have r3 : (j : Int) < ((N + 1 : Nat) : Int) := by omega
        have r4 : (0 : Int) ≤ (j : Int) := by omega
        have r5 : ((j + 1 : Nat) : Int) - 1 = (j : Int) := by omega
        clear hx hy
        by_cases hxy : x < y
        · have f1 : decide (x < y) = true := by simpa using hxy
          clear hxy
          go_wp2_with fail
          go_quiet (fail)
          go_wp2
          go_ret
          exact ⟨false, rfl, (fun h => by cases h), below_drewN (below_drewN (Below.refl _ _) _) _⟩
        · have f1 : decide (x < y) = false := by simpa using hxy
          have hx0 : 0 ≤ x := by omega
          by_cases hr : x % m = 0
          · have f2 : (x % m != 0) = false := by simpa using hr
            have f3 : (x.tmod m != 0) = false := by rw [Int.tmod_eq_emod_of_nonneg hx0]; exact f2
            have HR := Lib.hid hr
            have HXY := Lib.hid hxy
            clear hr hxy
            go_wp2_with fail
            go_quiet (fail)
            go_wp2
            go_roundw
            case rel =>
              refine ⟨j + 1 + 1, by go_num, by omega, by omega, fun i h1 h2 => ?_, _, rfl⟩
              rcases Nat.lt_or_ge i (j + 1) with h3 | h3
              · exact HI.out i h1 h3
              · rw [show i = j + 1 by omega, show j + 1 - 1 = j by omega, HX.out, HY.out]
                exact ⟨by have := HXY.out; omega, HR.out⟩
            case measure => simp [intOf]; omega
          · have f2 : (x % m != 0) = true := by simpa using hr
            have f3 : (x.tmod m != 0) = true := by rw [Int.tmod_eq_emod_of_nonneg hx0]; exact f2
            clear hr hxy
            go_wp2_with fail
            go_quiet (fail)
            go_wp2
            go_ret
            exact ⟨false, rfl, (fun h => by cases h), below_drewN (below_drewN (Below.refl _ _) _) _⟩
      · have hj : j = N := by omega
        subst hj
        go_wp2
        go_ret
        refine ⟨true, rfl, fun _ => ⟨code_of HN.out HB.out m1 m2 ?_ ?_ ?_ HD.out HV.out HI.out, by rw [HH.out, HN.out]⟩, below_drewN (Below.refl _ _) _⟩
        · rw [HP0.out]; simpa using HE0.out
        · rw [HPL.out]; simpa using HE1.out
        · simpa using HE2.out
  · have e3 : (size.tmod m != 0) = true := by simpa using hd
    clear hd
    go_enter Try.func12, Try.ntmps12
    go_wp2
    go_ret
    exact ⟨false, rfl, (fun h => by cases h), Below.refl _ _⟩

set_option maxHeartbeats 1000000 in
theorem isCode_any (A A1 A2 : Option Addr) (n c n1 c1 n2 c2 : Nat) (pcs before behind : List Int) (size m : Int) (w : World) (hs : Hid (SlN w w.heap.size .i64 A n c pcs)) (h1 : Hid (SlN w w.heap.size .i32 A1 n1 c1 before)) (h2 : Hid (SlN w w.heap.size .i32 A2 n2 c2 behind))
    (s0 : -9223372036854775808 ≤ size) (s1 : size ≤ 9223372036854775807) :
    Calls Try.prog 12 #[.slice A n c, .int .i64 size, .slice A1 n1 c1, .slice A2 n2 c2, .int .i64 m] w (IsCodePost w pcs size before behind m) := by
  have hn : n ≤ 9223372036854775807 := Nat.le_trans hs.out.cap hs.out.mx
  have hn1 : n1 ≤ 9223372036854775807 := Nat.le_trans h1.out.cap h1.out.mx
  have hn2 : n2 ≤ 9223372036854775807 := Nat.le_trans h2.out.cap h2.out.mx
  by_cases z0 : n = 0
  · subst z0
    go_enter Try.func12, Try.ntmps12
    go_wp2
    go_ret
    exact ⟨false, rfl, (fun h => by cases h), Below.refl _ _⟩
  obtain ⟨N, rfl⟩ : ∃ N, n = N + 1 := ⟨n - 1, by omega⟩
  have g1 : (((N : Nat) : Int) + 1 == 0) = false := by simp; omega
  clear z0
  by_cases z1 : n1 = N + 1
  case neg =>
    have e : ((n1 : Int) != (N : Int) + 1) = true := by simp; omega
    clear z1
    go_enter Try.func12, Try.ntmps12
    go_wp2
    go_ret
    exact ⟨false, rfl, (fun h => by cases h), Below.refl _ _⟩
  subst z1
  by_cases z2 : n2 = N + 1
  case neg =>
    have e : ((n2 : Int) != (N : Int) + 1) = true := by simp; omega
    clear z2
    go_enter Try.func12, Try.ntmps12
    go_wp2
    go_ret
    exact ⟨false, rfl, (fun h => by cases h), Below.refl _ _⟩
  subst z2
  by_cases z3 : 1 ≤ m
  case neg =>
    have e : decide (m < 1) = true := by simp; omega
    go_enter Try.func12, Try.ntmps12
    go_wp2
    go_ret
    exact ⟨false, rfl, (fun h => by cases h), Below.refl _ _⟩
  by_cases z4 : m ≤ 16
  case neg =>
    have e : decide (m < 1) = false := by simp; omega
    have e' : decide (16 < m) = true := by simp; omega
    go_enter Try.func12, Try.ntmps12
    go_wp2
    go_ret
    exact ⟨false, rfl, (fun h => by cases h), Below.refl _ _⟩
  obtain ⟨b, o, rfl, hb, hcell⟩ := hs.out.at_ (by omega)
  have hpl : pcs.length = N + 1 := hs.out.len
  have HC : Hid (∀ j, j < N + 1 → w.cell? ⟨b, o + j, none⟩ = some (.int .i64 (pAt pcs size j))) := Lib.hid (fun j hj => by
    have h := hcell j (by omega)
    unfold pAt
    rw [List.getElem?_eq_getElem (by omega)]
    exact h)
  obtain ⟨p0, hp0⟩ : ∃ p0, pAt pcs size 0 = p0 := ⟨_, rfl⟩
  obtain ⟨pl, hpl2⟩ : ∃ pl, pAt pcs size N = pl := ⟨_, rfl⟩
  have q0 := HC.out 0 (by omega)
  have q1 := HC.out N (by omega)
  rw [hp0] at q0
  rw [hpl2] at q1
  simp only [Nat.add_zero] at q0
  have HN := Lib.hid hpl
  have HP0 := Lib.hid hp0
  have HPL := Lib.hid hpl2
  have e3 : decide (m < 1) = false := by simp; omega
  have e4 : decide (16 < m) = false := by simp; omega
  have g3 : ((N + 1 : Nat) : Int) - 1 = (N : Int) := by omega
  have i0 : (0 : Int) ≤ (N : Int) := by omega
  have i1 : (N : Int) < ((N + 1 : Nat) : Int) := by omega
  have i2 : (0 : Int) < ((N + 1 : Nat) : Int) := by omega
  clear hcell hpl hp0 hpl2
  by_cases z5 : p0 = 0
  case neg =>
    have e : (p0 != 0) = true := by simpa using z5
    clear z5
    go_enter Try.func12, Try.ntmps12
    go_wp2
    go_ret
    exact ⟨false, rfl, (fun h => by cases h), Below.refl _ _⟩
  have e5 : (p0 != 0) = false := by simpa using z5
  clear z5
  by_cases z6 : size ≤ pl
  · have e : decide (size ≤ pl) = true := by simpa using z6
    clear z6
    go_enter Try.func12, Try.ntmps12
    go_wp2
    go_ret
    exact ⟨false, rfl, (fun h => by cases h), Below.refl _ _⟩
  have e6 : decide (size ≤ pl) = false := by simpa using z6
  clear z6
  by_cases z7 : 2147483648 ≤ size
  · have e : decide (2147483648 ≤ size) = true := by simpa using z7
    clear z7
    go_enter Try.func12, Try.ntmps12
    go_wp2
    go_ret
    exact ⟨false, rfl, (fun h => by cases h), Below.refl _ _⟩
  have e7 : decide (2147483648 ≤ size) = false := by simpa using z7
  exact isCode_main b o c c1 c2 N A1 A2 pcs before behind size m p0 pl w HC HN (Lib.hid h1.out.len) (Lib.hid h2.out.len) (Lib.hid (fun z hz => bounds_i32 (h1.out.wf z hz))) hn HP0 HPL q0 q1 z3 z4 g1 g3 e5 e6 e7 s0 s1
end Go.Proofs.Ytmadidaiaggheaa
