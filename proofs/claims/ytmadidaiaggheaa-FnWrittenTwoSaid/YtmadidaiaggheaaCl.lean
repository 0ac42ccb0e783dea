/- The contracts of the reference's Zigzag and SameBytes, and of slices.Clone at bytes. -/
import Derived.Test.YtmadidaiaggheaaUv
namespace Go.Proofs.Ytmadidaiaggheaa
open Go.RowKit
set_option linter.unusedVariables false

theorem zigzag_any (d : Int) (h0 : -2147483648 ≤ d) (h1 : d ≤ 2147483647) (w : World) :
    Calls Try.prog 26 #[.int .i32 d] w fun e w' => e = .returned (.int .u32 (Lib.zigzag d : Nat)) ∧ w = w' := by
  by_cases h : d < 0
  · go_enter Try.func26, Try.ntmps26
    go_wp2
    go_ret
    exact ⟨ret_int (by unfold Lib.zigzag; rw [if_neg (by omega)]; omega), rfl⟩
  · go_enter Try.func26, Try.ntmps26
    go_wp2
    go_ret
    exact ⟨ret_int (by unfold Lib.zigzag; rw [if_pos (by omega)]; omega), rfl⟩

/-- A slice of bytes that reads as l comes back; what was there is as it was. -/
def Reads8 (w : World) (l : List UInt8) (e : Ending) (w' : World) : Prop := ∃ A n c, e = .returned (.slice A n c) ∧ Sl w' w'.heap.size A n c l ∧ Below w.heap.size w w'

theorem Gives8.reads {w w' : World} {l : List UInt8} {e : Ending} (h : Gives8 w l e w') : Reads8 w l e w' := by
  obtain ⟨v, rfl, h1, h2⟩ := h
  obtain ⟨A, n, c, rfl, h3⟩ := h1.sl
  exact ⟨A, n, c, rfl, h3, h2⟩

theorem clone8_nil (n c : Nat) (w : World) : Calls Try.prog 21 #[.slice none n c] w fun e w' => e = .returned (.slice none 0 0) ∧ w = w' := by
  have hq := fun (W : World) => Lib.run_eql_slice_nil (P := Try.prog) W 24 5 none n c 0 0 Try.underlying24
  go_enter Try.func21, Try.ntmps21
  go_wp2
  go_ret
  exact ⟨rfl, rfl⟩
theorem clone8_some (ad : Addr) (c B : Nat) (l : List UInt8) (w : World) (hs : Sl w B (some ad) l.length c l) (hB : B ≤ w.heap.size) (hn : l.length ≤ 70368744177664) :
    Calls Try.prog 21 #[.slice (some ad) l.length c] w (Gives8 w l) := by
  have hq := fun (W : World) => Lib.run_eql_slice_nil (P := Try.prog) W 24 5 (some ad) l.length c 0 0 Try.underlying24
  go_enter Try.func21, Try.ntmps21
  go_wp2_with (at_builtin; refine wpList_ap8 rfl _ _ rfl w.heap.size (.slice (some ⟨w.heap.size, 0, none⟩) 0 0) [] rfl (World.ownsRow_made w #[] 0 (Nat.le_refl _) (by unfold maxLen; omega) rfl) B (some ad) l.length c l rfl (hs.alloc hB _) (by simp; omega) (by simp) ?_; intro v1 w1 hown1 hg1 _)
  go_ret
  exact ⟨v1, rfl, hown1, ((Below.refl _ _).alloc (Nat.le_refl _) _).grown hg1 (by simp) (fun k hk => by simp [Value.ownBlock] at hk; omega)⟩
theorem clone8_any (A : Option Addr) (n c B : Nat) (l : List UInt8) (w : World) (hs : Sl w B A n c l) (hB : B ≤ w.heap.size) (hn : l.length ≤ 70368744177664) :
    Calls Try.prog 21 #[.slice A n c] w (Reads8 w l) := by
  have hl := hs.len
  subst hl
  rcases A with _ | ad
  · have h0 : l = [] := List.eq_nil_of_length_eq_zero (by have := hs.nil rfl; have := hs.cap; omega)
    subst h0
    refine (clone8_nil _ c w).mono ?_
    rintro e w' ⟨rfl, rfl⟩
    exact ⟨none, 0, 0, rfl, ⟨rfl, Nat.le_refl _, by omega, fun _ => rfl, .inl rfl⟩, Below.refl _ _⟩
  · exact (clone8_some ad c B l w hs hB hn).mono fun _ _ h => h.reads

def Reads8F (w : World) (l : List UInt8) (e : Ending) (w' : World) : Prop := ∃ A n c, e = .returned (.slice A n c) ∧ Sl w' w'.heap.size A n c l ∧ Below w.heap.size w w' ∧ Fresh w.heap.size A l
theorem clone8_fresh (A : Option Addr) (n c B : Nat) (l : List UInt8) (w : World) (hs : Sl w B A n c l) (hB : B ≤ w.heap.size) (hn : l.length ≤ 70368744177664) :
    Calls Try.prog 21 #[.slice A n c] w (Reads8F w l) := by
  have hl := hs.len
  subst hl
  rcases A with _ | ad
  · have h0 : l = [] := List.eq_nil_of_length_eq_zero (by have := hs.nil rfl; have := hs.cap; omega)
    subst h0
    refine (clone8_nil _ c w).mono ?_
    rintro e w' ⟨rfl, rfl⟩
    exact ⟨none, 0, 0, rfl, ⟨rfl, Nat.le_refl _, by omega, fun _ => rfl, .inl rfl⟩, Below.refl _ _, .inl rfl⟩
  · refine (clone8_some ad c B l w hs hB hn).mono ?_
    rintro e w' ⟨v, rfl, h1, h2⟩
    obtain ⟨A', n', c', rfl, h3⟩ := h1.sl
    exact ⟨A', n', c', rfl, h3, h2, h1.fresh⟩

theorem same8_empty (A A' : Option Addr) (c c' : Nat) (w : World) :
    Calls Try.prog 16 #[.slice A 0 c, .slice A' 0 c'] w fun e w' => e = .returned (.bool true) ∧ w = w' := by
  go_enter Try.func16, Try.ntmps16
  go_wp2
  go_loop [14] (fun i => i = .int .i64 0) (fun _ => 0)
  case atStart => rfl
  case round =>
    subst hrel
    go_wp2
    go_ret
    exact ⟨rfl, rfl⟩
theorem same8_some (b o b' o' c c' n : Nat) (l : List UInt8) (w : World) (hl : Hid (l.length = n)) (hn : n ≤ 9223372036854775807)
    (h1 : Hid (∀ j (hj : j < l.length), w.cell? ⟨b, o + j, none⟩ = some (.int .u8 (l[j]).toNat))) (h2 : Hid (∀ j (hj : j < l.length), w.cell? ⟨b', o' + j, none⟩ = some (.int .u8 (l[j]).toNat))) :
    Calls Try.prog 16 #[.slice (some ⟨b, o, none⟩) n c, .slice (some ⟨b', o', none⟩) n c'] w fun e w' => e = .returned (.bool true) ∧ w = w' := by
  go_enter Try.func16, Try.ntmps16
  go_wp2
  go_loop [14] (fun i => ∃ k : Nat, k ≤ n ∧ i = .int .i64 k) (fun i => n - (intOf i).toNat)
  case atStart => exact ⟨0, Nat.zero_le _, rfl⟩
  case round =>
    obtain ⟨k, hk, rfl⟩ := hrel
    by_cases hlt : k < n
    · have hkl : k < l.length := by have := hl.out; omega
      have g1 := h1.out k hkl
      have g2 := h2.out k hkl
      generalize l[k] = x at g1 g2
      clear hkl
      go_wp2
      go_round
      case rel => exact ⟨k + 1, by omega, by go_num⟩
      case measure => simp [intOf]; omega
    · go_wp2
      go_ret
      exact ⟨rfl, rfl⟩
theorem same8_any (A A' : Option Addr) (n n' c c' B B' : Nat) (l : List UInt8) (w : World) (h1 : Sl w B A n c l) (h2 : Sl w B' A' n' c' l) :
    Calls Try.prog 16 #[.slice A n c, .slice A' n' c'] w fun e w' => e = .returned (.bool true) ∧ w = w' := by
  have e1 := h1.len
  have e2 := h2.len
  subst e1
  subst e2
  have hm := h1.mx
  have hc := h1.cap
  by_cases h0 : l.length = 0
  · have := same8_empty A A' c c' w
    rw [← h0] at this
    exact this
  · obtain ⟨b, o, rfl, _, g1⟩ := h1.at_ (k := 0) (by omega)
    obtain ⟨b', o', rfl, _, g2⟩ := h2.at_ (k := 0) (by omega)
    exact same8_some b o b' o' c c' l.length l w (Lib.hid rfl) (by omega) (Lib.hid g1) (Lib.hid g2)
end Go.Proofs.Ytmadidaiaggheaa
