/- The contracts of the reference's At, Right and Table. -/
import Derived.Test.YtmadidaiaggheaaPcs
import Derived.Test.YtmadidaiaggheaaCl
namespace Go.Proofs.Ytmadidaiaggheaa
open Go.RowKit
set_option linter.unusedVariables false

theorem drop_at {ps : List (Int × Int)} {k : Nat} (hk : k < ps.length) : ps.drop k = ps[k] :: ps.drop (k + 1) := List.drop_eq_getElem_cons hk
theorem take_at {ps : List (Int × Int)} {k : Nat} (hk : k < ps.length) : ps.take (k + 1) = ps.take k ++ [ps[k]] := List.take_succ_eq_append_getElem hk

def AtPost (w : World) (x : Int) (b : Bool) (e : Ending) (w' : World) : Prop := e = .returned (.tuple #[.int .i32 x, .bool b]) ∧ Below w.heap.size w w'
def AtRel (w : World) (n : Nat) (ps : List (Int × Int)) (t : Int) (vp vi : Value) (wr : World) : Prop :=
  ∃ (k : Nat) (t' : Int), vi = .int .i64 k ∧ k ≤ n ∧ vp = .int .u64 t' ∧ 0 ≤ t' ∧ t' ≤ t ∧ atL t ps = atL t' (ps.drop k) ∧ Below w.heap.size w wr
theorem at_any (A : Option Addr) (n c : Nat) (ps : List (Int × Int)) (t : Int) (w : World) (hs : Hid (SlP w w.heap.size A n c ps)) (t0 : 0 ≤ t) (t1 : t ≤ 18446744073709551615) :
    Calls Try.prog 18 #[.slice A n c, .int .u64 t] w (AtPost w (atL t ps).1 (atL t ps).2) := by
  have hn : n ≤ 9223372036854775807 := Nat.le_trans hs.out.cap hs.out.mx
  go_enter Try.func18, Try.ntmps18
  go_wp2
  go_loopw [1, 10] (fun vp vi wr => AtRel w n ps t vp vi wr) (fun _ vi _ => n - (intOf vi).toNat)
  case atStart => exact ⟨0, t, rfl, Nat.zero_le _, rfl, t0, Int.le_refl _, rfl, Below.refl _ _⟩
  case round =>
    obtain ⟨k, t', rfl, hk, rfl, h0, h1, he, hb⟩ := hrel
    have HE := Lib.hid he
    have HB := Lib.hid hb
    have hbs := hb.size
    clear he hb
    by_cases hlt : k < n
    · have hkl : k < ps.length := by have := hs.out.len; omega
      obtain ⟨b, o, rfl, hbl, hcell⟩ := hs.out.at_ (by omega)
      obtain ⟨hc1, hc2⟩ := hcell k hkl
      rw [← HB.out.cell (p := ⟨b, o + k * 2, none⟩) hbl] at hc1
      rw [← HB.out.cell (p := ⟨b, o + k * 2 + 1, none⟩) hbl] at hc2
      have hd := drop_at hkl
      have hok := hs.out.ok _ (List.getElem_mem hkl)
      generalize ps[k] = q at *
      obtain ⟨x, y⟩ := q
      obtain ⟨⟨x0, x1⟩, y0, y1⟩ := hok
      simp only at x0 x1 y0 y1 hc1 hc2
      have HD := Lib.hid hd
      have hz : b < wr.heap.size := by omega
      clear hd hcell hkl
      by_cases ht : t' < y
      · go_wp2
        go_ret2
        refine ⟨?_, HB.out.alloc hbs _⟩
        rw [HE.out, HD.out, atL, if_pos ht]
        rfl
      · go_wp2
        go_roundw
        case rel => exact ⟨k + 1, t' - y, by go_num, by omega, rfl, by omega, by omega, by rw [HE.out, HD.out, atL, if_neg ht], HB.out.alloc hbs _⟩
        case measure => simp [intOf]; omega
    · go_wp2
      go_ret2
      refine ⟨?_, HB.out⟩
      rw [HE.out, List.drop_eq_nil_of_le (by have := hs.out.len; omega)]
      rfl

end Go.Proofs.Ytmadidaiaggheaa
