/- The contract of the thin function Read. -/
import Derived.Test.YtmadidaiaggheaaZRead
namespace Go.Proofs.Ytmadidaiaggheaa
open Go.RowKit
set_option linter.unusedVariables false
attribute [local go_sem ↓] Go.wp_at_zero Go.wp_at_succ

/-- A row of numbers that is not empty: where its numbers lie. -/
theorem OwnN.form {w : World} {base : Nat} {e : TypeId} {k : IntKind} {v : Value} {zs : List Int} (h : OwnN w base e k v zs) (hn : 0 < zs.length) :
    ∃ g cap, v = .slice (some ⟨g, 0, none⟩) zs.length cap ∧ g < w.heap.size ∧ zs.length ≤ cap ∧ cap ≤ 9223372036854775807 ∧ ∀ j (hj : j < zs.length), w.cell? ⟨g, j, none⟩ = some (.int k (zs[j])) := by
  rcases h.2 with ⟨_, h0⟩ | ⟨g, cap, cur, rfl, hb, hh, hnc, hcm, hs, hx⟩
  · omega
  · refine ⟨g, cap, rfl, (h.lt g rfl).2, hnc, by simpa [maxLen] using hcm, fun j hj => ?_⟩
    have := World.ownsRow.cells h (g := g) rfl j (.int k (zs[j])) (by rw [List.getElem?_map, List.getElem?_eq_getElem hj]; rfl)
    rwa [Addr.add_lit, Nat.zero_add] at this

def IReadRel (w w2 : World) (n : Nat) (rs : List (Int × Int × Int)) (vo vi : Value) (wr : World) : Prop :=
  ∃ k : Nat, vi = .int .i64 k ∧ k ≤ n ∧ OwnR wr w2.heap.size vo (rs.take k) ∧ Below w2.heap.size w2 wr
theorem read_any (A : Option Addr) (n c B : Nat) (s : Int) (ps : List (Int × Int)) (tail : List UInt8) (w : World) (HR : Hid (RightP ps s)) (HOk : Hid (∀ p ∈ ps, PieceOk p)) (hs : Hid (Sl w B A n c (leftB (-1) ps tail))) (hB : B ≤ w.heap.size) (hl : Hid ((leftB (-1) ps tail).length ≤ 70368744177664)) (hpl : ps.length ≤ 2147483647) :
    Calls Try.prog 10 #[.slice A n c, .int .u32 s] w (GivesR w (rangesL s 0 ps)) := by
  go_enter Try.func10, Try.ntmps10
  go_wp2_with fail
  refine (clone8_any A n c B _ w hs.out hB hl.out).mono ?_
  rintro e w1 ⟨A1, n1, c1, rfl, hs1, hb1⟩
  obtain ⟨b, o, rfl, hbl, _⟩ := hs1.at_ (k := 0) (by have := hs1.len; simp [leftB] at this; omega)
  have HS1 := Lib.hid hs1
  have HB1 := Lib.hid hb1
  have hz1 := hb1.size
  clear hs1 hb1
  go_wp2_with fail
  refine (zread_any b o n1 c1 s ps tail w1 HR HOk HS1 hbl hpl).mono ?_
  rintro e w2 ⟨va, vb, vc, rfl, hrows, hb2⟩
  have hz2 := hb2.size
  have HB2 := Lib.hid (HB1.out.trans (hb2.mono hz1))
  obtain ⟨N, hN⟩ : ∃ N, N = (rangesL s 0 ps).length := ⟨_, rfl⟩
  have hNp : N = ps.length := by rw [hN, rangesL_len]
  have e1 : fst3 s ps ps.length = (rangesL s 0 ps).map (·.1) := by unfold fst3; rw [List.take_length]
  have e2 : snd3 s ps ps.length = (rangesL s 0 ps).map (·.2.1) := by unfold snd3; rw [List.take_length]
  have e3 : thd3 s ps ps.length = (rangesL s 0 ps).map (·.2.2) := by unfold thd3; rw [List.take_length]
  rw [e1, e2, e3] at hrows
  have hpos : 0 < N := by rw [hNp]; have := HR.out.scale.2.2; cases ps with | nil => exact absurd rfl this | cons p r => simp
  obtain ⟨ga, ca, rfl, la, _, ma, fa⟩ := hrows.ra.form (by rw [List.length_map]; omega)
  obtain ⟨gb, cb, rfl, lb, _, mb, fb⟩ := hrows.rb.form (by rw [List.length_map]; omega)
  obtain ⟨gc, cc, rfl, lc, _, mc, fc⟩ := hrows.rc.form (by rw [List.length_map]; omega)
  simp only [List.length_map, ← hN]
  have FA := Lib.hid (show ∀ j (hj : j < (rangesL s 0 ps).length), w2.cell? ⟨ga, j, none⟩ = some (.int .i32 ((rangesL s 0 ps)[j]).1) from fun j hj => by have := fa j (by simpa using hj); simpa using this)
  have FB := Lib.hid (show ∀ j (hj : j < (rangesL s 0 ps).length), w2.cell? ⟨gb, j, none⟩ = some (.int .u32 ((rangesL s 0 ps)[j]).2.1) from fun j hj => by have := fb j (by simpa using hj); simpa using this)
  have FC := Lib.hid (show ∀ j (hj : j < (rangesL s 0 ps).length), w2.cell? ⟨gc, j, none⟩ = some (.int .u32 ((rangesL s 0 ps)[j]).2.2) from fun j hj => by have := fc j (by simpa using hj); simpa using this)
  have HN := Lib.hid hN
  have hNl : N ≤ 2147483647 := by omega
  clear hrows hb2 e1 e2 e3 fa fb fc hN hNp
  go_wp2_with fail
  go_loopw [8, 21] (fun vo vi wr => IReadRel w w2 N (rangesL s 0 ps) vo vi wr) (fun _ vi _ => N - (intOf vi).toNat)
  case atStart => exact ⟨0, rfl, Nat.zero_le _, OwnR.nil _ _, Below.refl _ _⟩
  case round =>
    obtain ⟨k, rfl, hk, hown, hb⟩ := hrel
    have HO := Lib.hid hown
    have HB := Lib.hid hb
    have hbs := hb.size
    clear hown hb
    by_cases hlt : k < N
    · have hkl : k < (rangesL s 0 ps).length := by have := HN.out; omega
      have p1 := (HB.out.cell (p := ⟨ga, k, none⟩) la).trans (FA.out k hkl)
      have p2 := (HB.out.cell (p := ⟨gb, k, none⟩) lb).trans (FB.out k hkl)
      have p3 := (HB.out.cell (p := ⟨gc, k, none⟩) lc).trans (FC.out k hkl)
      have htk : (rangesL s 0 ps).take (k + 1) = (rangesL s 0 ps).take k ++ [(rangesL s 0 ps)[k]] := List.take_succ_eq_append_getElem hkl
      have HL := Lib.hid (show ((rangesL s 0 ps).take k).length + 1 ≤ 4294967296 by have := List.length_take_le k (rangesL s 0 ps); omega)
      generalize (rangesL s 0 ps)[k] = r at *
      obtain ⟨x, y, z⟩ := r
      simp only at p1 p2 p3
      have HTK := Lib.hid htk
      have i0 : (0 : Int) ≤ (k : Int) := by omega
      have i1 : (k : Int) < (N : Int) := by omega
      have z2 : gb < wr.heap.size := by omega
      have z3 : gc < wr.heap.size := by omega
      have P2 := Lib.hid p2
      have P3 := Lib.hid p3
      have HNb := Lib.hid (show u8.ownBlock ≠ some gb from fun e => by have := (HO.out.lt _ e).1; omega)
      have HNc := Lib.hid (show u8.ownBlock ≠ some gc from fun e => by have := (HO.out.lt _ e).1; omega)
      clear htk hkl
      go_wp2_with fail
      go_region_held3 (fun W => W.cell? ⟨gb, k, none⟩ = some (.int .u32 y) ∧ W.cell? ⟨gc, k, none⟩ = some (.int .u32 z))
        (first | go_keep | (refine ⟨?_, ?_⟩ <;> assumption))
        ((refine step_apR (by rfl) (.tmp 26) (.tmp 37) (by rfl) w2.heap.size u8 ((rangesL s 0 ps).take k) (by rfl) (by exact HO.out.alloc _) wr.heap.size (x, y, z) (by rfl) (by simp [go_sem]) (by simp [go_sem]) (by simp [go_sem]) HL.out (by simp; omega) ?_; intro v3 w3 hown3 hg3 hat3; have q2 : w3.cell? ⟨gb, k, none⟩ = some (.int .u32 y) := cell_grown hg3 (by exact (World.cell?_alloc_lt wr _ ⟨gb, k, none⟩ z2).trans P2.out) HNb.out; have q3 : w3.cell? ⟨gc, k, none⟩ = some (.int .u32 z) := cell_grown hg3 (by exact (World.cell?_alloc_lt wr _ ⟨gc, k, none⟩ z3).trans P3.out) HNc.out))
      have HO3 := Lib.hid hown3
      have HB3 := Lib.hid (show Below w2.heap.size w2 w3 from (HB.out.alloc hbs _).drew.grown hg3 (by simp; omega) (fun k hk => (HO.out.lt k hk).1))
      clear hown3 hg3 hat3 q2 q3
      go_wp2
      go_roundw
      case rel => exact ⟨k + 1, by go_num, by omega, by rw [HTK.out]; exact HO3.out, HB3.out⟩
      case measure => simp [intOf]; omega
    · go_wp2
      go_ret
      refine ⟨u8, rfl, ?_, HB2.out.trans (HB.out.mono (by omega))⟩
      have h := HO.out
      rw [List.take_of_length_le (by have := HN.out; omega)] at h
      exact World.ownsRow.mono h (by omega)
end Go.Proofs.Ytmadidaiaggheaa
