/- The contracts of the reference's At, Right and Table. -/
import Derived.Test.YtmnjcngjhpdmeaaPcs
import Derived.Test.YtmnjcngjhpdmeaaCl
namespace Go.Proofs.Ytmnjcngjhpdmeaa
open Go.RowKit
set_option linter.unusedVariables false

theorem drop_at {ps : List (Int × Int)} {k : Nat} (hk : k < ps.length) : ps.drop k = ps[k] :: ps.drop (k + 1) := List.drop_eq_getElem_cons hk
theorem take_at {ps : List (Int × Int)} {k : Nat} (hk : k < ps.length) : ps.take (k + 1) = ps.take k ++ [ps[k]] := List.take_succ_eq_append_getElem hk

def AtPost (w : World) (x : Int) (b : Bool) (e : Ending) (w' : World) : Prop := e = .returned (.tuple #[.int .i32 x, .bool b]) ∧ Below w.heap.size w w'
def AtRel (w : World) (n : Nat) (ps : List (Int × Int)) (t : Int) (vp vi : Value) (wr : World) : Prop :=
  ∃ (k : Nat) (t' : Int), vi = .int .i64 k ∧ k ≤ n ∧ vp = .int .u64 t' ∧ 0 ≤ t' ∧ t' ≤ t ∧ atL t ps = atL t' (ps.drop k) ∧ Below w.heap.size w wr
theorem at_any (A : Option Addr) (n c : Nat) (ps : List (Int × Int)) (t : Int) (w : World) (hs : Hid (SlP w w.heap.size A n c ps)) (t0 : 0 ≤ t) (t1 : t ≤ 18446744073709551615) :
    Calls Try.prog 20 #[.slice A n c, .int .u64 t] w (AtPost w (atL t ps).1 (atL t ps).2) := by
  have hn : n ≤ 9223372036854775807 := Nat.le_trans hs.out.cap hs.out.mx
  go_enter Try.func20, Try.ntmps20
  go_wp2
  go_loopw [1, 10] (fun vp vi wr => AtRel w n ps t vp vi wr) (fun _ vi _ => n - (intOf vi).toNat)
  case atStart => exact ⟨0, t, rfl, Nat.zero_le _, rfl, t0, Int.le_refl _, rfl, Below.refl _ _⟩
  case round =>
    obtain ⟨k, t', rfl, hk, rfl, h0, h1, he, hb⟩ := hrel
    have HE := Lib.hid he
    have HB := Lib.hid hb
    have hbs := hb.size
    clear he hb
    by_cases hlt : k < n
    · have hkl : k < ps.length := by have := hs.out.len; omega
      obtain ⟨b, o, rfl, hbl, hcell⟩ := hs.out.at_ (by omega)
      obtain ⟨hc1, hc2⟩ := hcell k hkl
      rw [← HB.out.cell (p := ⟨b, o + k * 2, none⟩) hbl] at hc1
      rw [← HB.out.cell (p := ⟨b, o + k * 2 + 1, none⟩) hbl] at hc2
      have hd := drop_at hkl
      have hok := hs.out.ok _ (List.getElem_mem hkl)
      generalize ps[k] = q at *
      obtain ⟨x, y⟩ := q
      obtain ⟨⟨x0, x1⟩, y0, y1⟩ := hok
      simp only at x0 x1 y0 y1 hc1 hc2
      have HD := Lib.hid hd
      have hz : b < wr.heap.size := by omega
      clear hd hcell hkl
      by_cases ht : t' < y
      · go_wp2
        go_ret2
        refine ⟨?_, HB.out.alloc hbs _⟩
        rw [HE.out, HD.out, atL, if_pos ht]
        rfl
      · go_wp2
        go_roundw
        case rel => exact ⟨k + 1, t' - y, by go_num, by omega, rfl, by omega, by omega, by rw [HE.out, HD.out, atL, if_neg ht], HB.out.alloc hbs _⟩
        case measure => simp [intOf]; omega
    · go_wp2
      go_ret2
      refine ⟨?_, HB.out⟩
      rw [HE.out, List.drop_eq_nil_of_le (by have := hs.out.len; omega)]
      rfl

/-- What holds at the head of a round of Right: the first k pieces are right. -/
def RightK (ps : List (Int × Int)) (s : Int) (k : Nat) : Prop :=
  match ps.take k with
  | [] => True
  | p :: r => 1 ≤ p.2 ∧ Alt p.1 r ∧ sumL (p :: r) * s < 4294967296
def RightPost (w : World) (ps : List (Int × Int)) (s : Int) (e : Ending) (w' : World) : Prop := ∃ r : Bool, e = .returned (.bool r) ∧ (r = true → RightP ps s) ∧ Below w.heap.size w w'
def RightRel (w : World) (n : Nat) (ps : List (Int × Int)) (s : Int) (vs vi : Value) (wr : World) : Prop :=
  ∃ (k : Nat) (t : Int), vi = .int .i64 k ∧ k ≤ n ∧ vs = .int .u64 t ∧ 0 ≤ t ∧ t < 4294967296 ∧ t = sumL (ps.take k) * s ∧ RightK ps s k ∧ Below w.heap.size w wr
theorem RightK_next {ps : List (Int × Int)} {s : Int} {k : Nat} {x y : Int} (h : RightK ps s k) (ht : ps.take (k + 1) = ps.take k ++ [(x, y)]) (hy : 1 ≤ y) (hx : ps.take k = [] ∨ x ≠ lastV 0 (ps.take k)) (hsum : sumL (ps.take k) * s + y * s < 4294967296) : RightK ps s (k + 1) := by
  unfold RightK at h ⊢
  rw [ht]
  have e : sumL (ps.take k ++ [(x, y)]) * s < 4294967296 := by rw [sumL_snoc, Int.add_mul]; exact hsum
  cases hp : ps.take k with
  | nil => rw [hp] at e; exact ⟨hy, trivial, e⟩
  | cons p r =>
    rw [hp] at h hx e
    refine ⟨h.1, (Alt_snoc p.1 r (x, y)).2 ⟨h.2.1, ?_, hy⟩, e⟩
    rcases hx with hx | hx
    · cases hx
    · exact hx
theorem RightK_done {ps : List (Int × Int)} {s : Int} (h : RightK ps s ps.length) (hn : ps ≠ []) (hs : 1 ≤ s) : RightP ps s := by
  unfold RightK at h
  rw [List.take_length] at h
  cases ps with
  | nil => exact absurd rfl hn
  | cons p r => exact ⟨h.1, h.2.1, hs, h.2.2⟩
theorem lastV_take {ps : List (Int × Int)} {k : Nat} (h : k < ps.length) (v : Int) : lastV v (ps.take (k + 1)) = (ps[k]).1 := by rw [take_at h, lastV_snoc]
theorem mulU (a b : Int) (h0 : 0 ≤ a) (h1 : a < 4294967296) (h2 : 0 ≤ b) (h3 : b < 4294967296) : ∃ m : Int, IntKind.u64.wrap (a * b) = m ∧ a * b = m ∧ 0 ≤ m ∧ m ≤ 18446744065119617025 := by
  have h4 : 0 ≤ a * b := Int.mul_nonneg h0 h2
  have h5 : a * b ≤ 4294967295 * 4294967295 := Int.mul_le_mul (by omega) (by omega) h2 (by omega)
  refine ⟨a * b, ?_, rfl, h4, by omega⟩
  rw [IntKind.wrap_u64]
  omega

theorem right_any (A : Option Addr) (n c : Nat) (ps : List (Int × Int)) (s : Int) (w : World) (hs : Hid (SlP w w.heap.size A n c ps)) (s0 : 0 ≤ s) (s1 : s < 4294967296) :
    Calls Try.prog 17 #[.slice A n c, .int .u32 s] w (RightPost w ps s) := by
  have hn : n ≤ 9223372036854775807 := Nat.le_trans hs.out.cap hs.out.mx
  go_enter Try.func17, Try.ntmps17
  go_wp2
  go_loopw [5, 10] (fun vs vi wr => RightRel w n ps s vs vi wr) (fun _ vi _ => n - (intOf vi).toNat)
  case atStart => exact ⟨0, 0, rfl, Nat.zero_le _, rfl, by omega, by omega, by simp [sumL], trivial, Below.refl _ _⟩
  case round =>
    obtain ⟨k, t, rfl, hk, rfl, h0, h1, he, hK, hb⟩ := hrel
    have HE := Lib.hid he
    have HK := Lib.hid hK
    have HB := Lib.hid hb
    have hbs := hb.size
    clear he hb hK
    by_cases hlt : k < n
    · have hkl : k < ps.length := by have := hs.out.len; omega
      obtain ⟨b, o, rfl, hbl, hcell⟩ := hs.out.at_ (by omega)
      have HN := Lib.hid hcell
      obtain ⟨hc1, hc2⟩ := hcell k hkl
      rw [← HB.out.cell (p := ⟨b, o + k * 2, none⟩) hbl] at hc1
      rw [← HB.out.cell (p := ⟨b, o + k * 2 + 1, none⟩) hbl] at hc2
      have hd := take_at hkl
      have hok := hs.out.ok _ (List.getElem_mem hkl)
      have hz : b < wr.heap.size := by omega
      have HL := Lib.hid hkl
      have HD := Lib.hid hd
      clear hcell hd
      generalize ps[k] = q at *
      obtain ⟨x, y⟩ := q
      obtain ⟨⟨x0, x1⟩, y0, y1⟩ := hok
      simp only at x0 x1 y0 y1 hc1 hc2
      clear hkl
      by_cases hy : y = 0
      · have e1 : (y == 0) = true := by simpa using hy
        clear hy
        go_wp2_with fail
        go_quiet (fail)
        go_wp2
        go_ret
        exact ⟨false, rfl, (fun h => by cases h), below_drewN (HB.out.alloc hbs _) _⟩
      have e1 : (y == 0) = false := by simpa using hy
      obtain ⟨m, hm, hm2, m0, m1⟩ := mulU y s y0 y1 s0 s1
      have HM := Lib.hid hm2
      have hy1 : 1 ≤ y := by omega
      clear hm2 hy
      by_cases hk0 : k = 0
      · have HX := Lib.hid (show ps.take k = [] ∨ x ≠ lastV 0 (ps.take k) from .inl (by rw [hk0]; rfl))
        have g1 : decide ((0 : Int) < (k : Int)) = false := by simp; omega
        have g2 : decide (0 < k) = false := by simp; omega
        clear hk0 HN
        by_cases hbig : t + m < 4294967296
        · go_wp2_with fail
          go_quiet (fail)
          go_wp2
          go_roundw
          case rel => exact ⟨k + 1, t + m, by go_num, by omega, rfl, by omega, hbig, by rw [HD.out, sumL_snoc, Int.add_mul, ← HE.out, HM.out], RightK_next HK.out HD.out hy1 HX.out (by rw [← HE.out, HM.out]; exact hbig), below_drewN (HB.out.alloc hbs _) _⟩
          case measure => simp [intOf]; omega
        · go_wp2_with fail
          go_quiet (fail)
          go_wp2
          go_ret
          exact ⟨false, rfl, (fun h => by cases h), below_drewN (HB.out.alloc hbs _) _⟩
      · obtain ⟨j, rfl⟩ : ∃ j, k = j + 1 := ⟨k - 1, by omega⟩
        have hjl : j < ps.length := by have := HL.out; omega
        have hc3 := (HN.out j hjl).1
        rw [← HB.out.cell (p := ⟨b, o + j * 2, none⟩) hbl] at hc3
        have hlv := lastV_take hjl 0
        generalize (ps[j]).1 = x' at *
        have HV := Lib.hid hlv
        have g1 : decide ((0 : Int) < ((j + 1 : Nat) : Int)) = true := by simp only [decide_eq_true_eq]; omega
        have g2 : decide (0 < j + 1) = true := by simp
        have g3 : ((j + 1 : Nat) : Int) - 1 = (j : Int) := by omega
        clear hjl hlv HN hk0
        by_cases hxx : x = x'
        · have e2 : (x == x') = true := by simpa using hxx
          have HXX := Lib.hid hxx
          clear hxx
          go_wp2_with fail
          go_quiet (fail)
          go_wp2
          go_ret
          exact ⟨false, rfl, (fun h => by cases h), below_drewN (HB.out.alloc hbs _) _⟩
        · have e2 : (x == x') = false := by simpa using hxx
          have HX := Lib.hid (show ps.take (j + 1) = [] ∨ x ≠ lastV 0 (ps.take (j + 1)) from .inr (by rw [HV.out]; exact hxx))
          clear hxx
          by_cases hbig : t + m < 4294967296
          · go_wp2_with fail
            go_quiet (fail)
            go_wp2
            go_roundw
            case rel => exact ⟨j + 1 + 1, t + m, by go_num, by omega, rfl, by omega, hbig, by rw [HD.out, sumL_snoc, Int.add_mul, ← HE.out, HM.out], RightK_next HK.out HD.out hy1 HX.out (by rw [← HE.out, HM.out]; exact hbig), below_drewN (HB.out.alloc hbs _) _⟩
            case measure => simp [intOf]; omega
          · go_wp2_with fail
            go_quiet (fail)
            go_wp2
            go_ret
            exact ⟨false, rfl, (fun h => by cases h), below_drewN (HB.out.alloc hbs _) _⟩
    · by_cases hn0 : n = 0
      · subst hn0
        go_wp2
        go_ret
        exact ⟨false, rfl, (fun h => by cases h), HB.out⟩
      · have g1 : decide ((0 : Int) < (n : Int)) = true := by simp; omega
        have g2 : decide (0 < n) = true := by simp; omega
        by_cases hs0 : s = 0
        · subst hs0
          go_wp2
          go_ret
          exact ⟨false, rfl, (fun h => by cases h), HB.out⟩
        · have g3 : decide (0 < s) = true := by simp; omega
          have hs1 : 1 ≤ s := by omega
          clear hs0
          go_wp2
          go_ret
          refine ⟨true, rfl, fun _ => ?_, HB.out⟩
          have e : k = ps.length := by have := hs.out.len; omega
          have h := HK.out
          rw [e] at h
          exact RightK_done h (fun e => by have := hs.out.len; rw [e] at this; simp at this; omega) hs1
end Go.Proofs.Ytmnjcngjhpdmeaa
