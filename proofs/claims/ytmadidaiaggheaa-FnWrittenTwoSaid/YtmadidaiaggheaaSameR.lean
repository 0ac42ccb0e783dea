/- The contract of SameRanges. -/
import Derived.Test.YtmadidaiaggheaaRng
namespace Go.Proofs.Ytmadidaiaggheaa
open Go.RowKit
set_option linter.unusedVariables false

def YesPost (w : World) (e : Ending) (w' : World) : Prop := e = .returned (.bool true) ∧ Below w.heap.size w w'
theorem sameR_empty (A A' : Option Addr) (c c' : Nat) (w : World) :
    Calls Try.prog 13 #[.slice A 0 c, .slice A' 0 c'] w (YesPost w) := by
  go_enter Try.func13, Try.ntmps13
  go_wp2
  go_loop [14] (fun i => i = .int .i64 0) (fun _ => 0)
  case atStart => rfl
  case round =>
    subst hrel
    go_wp2
    go_ret
    exact ⟨rfl, Below.refl _ _⟩
def SrRel (w : World) (n : Nat) (vi : Value) (wr : World) : Prop := ∃ k : Nat, k ≤ n ∧ vi = .int .i64 k ∧ Below w.heap.size w wr
theorem sameR_some (b o b' o' c c' n B B' : Nat) (rs : List (Int × Int × Int)) (w : World) (hl : Hid (rs.length = n)) (hn : n ≤ 9223372036854775807) (hb : b < w.heap.size) (hb' : b' < w.heap.size)
    (h1 : Hid (∀ k (hk : k < rs.length), w.cell? ⟨b, o + k * 3, none⟩ = some (.int .i32 (rs[k]).1) ∧ w.cell? ⟨b, o + k * 3 + 1, none⟩ = some (.int .u32 (rs[k]).2.1) ∧ w.cell? ⟨b, o + k * 3 + 1 + 1, none⟩ = some (.int .u32 (rs[k]).2.2)))
    (h2 : Hid (∀ k (hk : k < rs.length), w.cell? ⟨b', o' + k * 3, none⟩ = some (.int .i32 (rs[k]).1) ∧ w.cell? ⟨b', o' + k * 3 + 1, none⟩ = some (.int .u32 (rs[k]).2.1) ∧ w.cell? ⟨b', o' + k * 3 + 1 + 1, none⟩ = some (.int .u32 (rs[k]).2.2))) :
    Calls Try.prog 13 #[.slice (some ⟨b, o, none⟩) n c, .slice (some ⟨b', o', none⟩) n c'] w (YesPost w) := by
  go_enter Try.func13, Try.ntmps13
  go_wp2
  go_loopw [14] (fun vi wr => SrRel w n vi wr) (fun vi _ => n - (intOf vi).toNat)
  case atStart => exact ⟨0, Nat.zero_le _, rfl, Below.refl _ _⟩
  case round =>
    obtain ⟨k, hk, rfl, hbw⟩ := hrel
    have HB := Lib.hid hbw
    have hbs := hbw.size
    by_cases hlt : k < n
    · have hkl : k < rs.length := by have := hl.out; omega
      obtain ⟨p1, p2, p3⟩ := h1.out k hkl
      obtain ⟨q1, q2, q3⟩ := h2.out k hkl
      rw [← hbw.cell (p := ⟨b, _, none⟩) hb] at p1 p2 p3
      rw [← hbw.cell (p := ⟨b', _, none⟩) hb'] at q1 q2 q3
      generalize rs[k] = r at *
      obtain ⟨x, y, z⟩ := r
      simp only at p1 p2 p3 q1 q2 q3
      have z1 : b < wr.heap.size := by omega
      have z2 : b' < wr.heap.size := by omega
      clear hkl hbw
      have i0 : (0 : Int) ≤ (k : Int) := by omega
      have i1 : (k : Int) < (n : Int) := by omega
      go_wp2_with fail
      go_quiet (fail)
      go_wp2
      go_roundw
      case rel => exact ⟨k + 1, by omega, by go_num, below_drewN (HB.out.alloc hbs _) _⟩
      case measure => simp [intOf]; omega
    · clear hbw
      go_wp2
      go_ret
      exact ⟨rfl, HB.out⟩
theorem sameR_any (A A' : Option Addr) (n n' c c' : Nat) (rs : List (Int × Int × Int)) (w : World) (h1 : SlR w w.heap.size A n c rs) (h2 : SlR w w.heap.size A' n' c' rs) :
    Calls Try.prog 13 #[.slice A n c, .slice A' n' c'] w (YesPost w) := by
  have e1 := h1.len
  have e2 := h2.len
  subst e1
  subst e2
  by_cases h0 : rs.length = 0
  · have := sameR_empty A A' c c' w
    rw [← h0] at this
    exact this
  · obtain ⟨b, o, rfl, hb, g1⟩ := h1.at_ (by omega)
    obtain ⟨b', o', rfl, hb', g2⟩ := h2.at_ (by omega)
    exact sameR_some b o b' o' c c' rs.length 0 0 rs w (Lib.hid rfl) (Nat.le_trans h1.cap h1.mx) hb hb' (Lib.hid g1) (Lib.hid g2)
end Go.Proofs.Ytmadidaiaggheaa
