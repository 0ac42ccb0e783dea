/- The contract of the reference's Table. -/
import Derived.Test.YtmadidaiaggheaaAt
namespace Go.Proofs.Ytmadidaiaggheaa
open Go.RowKit
set_option linter.unusedVariables false

theorem cell_grown {w w' : World} {row : Option Nat} (hg : w.grownBy w' row) {b o : Nat} {v : Value} (h : w.cell? ⟨b, o, none⟩ = some v) (hne : row ≠ some b) : w'.cell? ⟨b, o, none⟩ = some v := hg.cell h (fun e => hne e.symm)

theorem own_ne {v v' : Value} {h g : Nat} (hat : v'.ownBlock = v.ownBlock ∨ v'.ownBlock = some h) (h1 : v.ownBlock ≠ some g) (h2 : h ≠ g) : v'.ownBlock ≠ some g := by
  rcases hat with e | e <;> rw [e]
  · exact h1
  · exact fun e => h2 (by injection e)

def TabRel (w : World) (n : Nat) (ps : List (Int × Int)) (vo vv vi : Value) (wr : World) : Prop :=
  ∃ (k : Nat) (v : Int), vi = .int .i64 k ∧ k ≤ n ∧ vv = .int .i32 v ∧ v = lastV (-1) (ps.take k) ∧ inI32 v ∧ Own8 wr w.heap.size vo (bodyB (-1) (ps.take k)) ∧ Below w.heap.size w wr

theorem table_any (A : Option Addr) (n c : Nat) (ps : List (Int × Int)) (w : World) (hs : Hid (SlP w w.heap.size A n c ps)) (hn : n ≤ 2147483647) :
    Calls Try.prog 17 #[.slice A n c] w (Gives8 w (tableB (-1) ps)) := by
  go_enter Try.func17, Try.ntmps17
  go_wp2
  go_loopw [3, 4, 9] (fun vo vv vi wr => TabRel w n ps vo vv vi wr) (fun _ _ vi _ => n - (intOf vi).toNat)
  case atStart => exact ⟨0, -1, rfl, Nat.zero_le _, rfl, rfl, by unfold inI32; omega, Own8.nil _ _, Below.refl _ _⟩
  case round =>
    obtain ⟨k, v, rfl, hk, rfl, hv, ⟨v0, v1⟩, hown, hb⟩ := hrel
    have HV := Lib.hid hv
    have HO := Lib.hid hown
    have HB := Lib.hid hb
    have hbs := hb.size
    have hlen : (bodyB (-1) (ps.take k)).length ≤ 10 * 2147483647 := by
      have h1 := bodyB_len (-1) (ps.take k) (fun p hp => hs.out.ok p (List.mem_of_mem_take hp))
      have h2 : (ps.take k).length ≤ k := List.length_take_le _ _
      omega
    have HLn := Lib.hid hlen
    clear hv hb hown hlen
    by_cases hlt : k < n
    · have hkl : k < ps.length := by have := hs.out.len; omega
      obtain ⟨b, o, rfl, hbl, hcell⟩ := hs.out.at_ (by omega)
      obtain ⟨hc1, hc2⟩ := hcell k hkl
      rw [← HB.out.cell (p := ⟨b, o + k * 2, none⟩) hbl] at hc1
      rw [← HB.out.cell (p := ⟨b, o + k * 2 + 1, none⟩) hbl] at hc2
      have hd := take_at hkl
      have hok := hs.out.ok _ (List.getElem_mem hkl)
      have hz : b < wr.heap.size := by omega
      generalize ps[k] = q at *
      obtain ⟨x, y⟩ := q
      obtain ⟨⟨x0, x1⟩, y0, y1⟩ := hok
      simp only at x0 x1 y0 y1 hc1 hc2
      have HD := Lib.hid hd
      have hw32 := wrap32_in (x - v)
      have HW32 := Lib.hid hw32
      have HZ := Lib.hid (zig_lt (x - v))
      have hu1 := uv5 _ (zig_lt (x - v))
      have hu2 := uv5 y.toNat (by omega)
      have HU1 := Lib.hid hu1
      have HU2 := Lib.hid hu2
      clear hd hcell hkl hw32 hu1 hu2
      go_wp2_with fail
      refine (zigzag_any _ HW32.out.1 HW32.out.2 _).mono ?_
      rintro e w' ⟨rfl, rfl⟩
      go_wp2_with fail
      refine (uvarint_any _ _ rfl HZ.out _).mono ?_
      rintro e w2 ⟨v2, rfl, hown2, hb2⟩
      have hz2 := hb2.size
      simp at hz2
      obtain ⟨A2, n2, c2, rfl, hs2⟩ := hown2.sl
      have HS2 := Lib.hid hs2
      have HB2 := Lib.hid ((HB.out.alloc hbs _).trans (hb2.mono (by simp; omega)))
      have HO2 := Lib.hid ((HO.out.alloc (.cells #[.int .i32 x, .int .u32 y] 53)).below hb2)
      have kx : w2.cell? ⟨wr.heap.size, 0, none⟩ = some (.int .i32 x) := by rw [hb2.cell (by simp)]; simp [go_sem]
      have ky : w2.cell? ⟨wr.heap.size, 1, none⟩ = some (.int .u32 y) := by rw [hb2.cell (by simp)]; simp [go_sem]
      have HNe := Lib.hid (show u3.ownBlock ≠ some wr.heap.size from fun e => by have := (HO.out.lt _ e).2; omega)
      clear hown2 hb2 hs2
      go_wp2_with (at_builtin; refine wpList_ap8 rfl (.tmp 13) _ rfl w.heap.size u3 _ rfl HO2.out w2.heap.size A2 n2 c2 _ rfl HS2.out (by have := HLn.out; have := HU1.out; omega) (by omega) ?_; intro v3 w3 hown3 hg3 hat3; have HO3 := Lib.hid hown3; have HB3 := Lib.hid (HB2.out.grown hg3 (by omega) (fun k hk => (HO2.out.lt k hk).1)); have hz3 := hg3.size; have kx3 := cell_grown hg3 kx HNe.out; have ky3 := cell_grown hg3 ky HNe.out; have HNe3 := Lib.hid (show v3.ownBlock ≠ some wr.heap.size from own_ne hat3 HNe.out (by omega)); clear hown3 hg3 hat3 kx ky)
      refine (uvarint_int y y0 y1 _).mono ?_
      rintro e w4 ⟨v4, rfl, hown4, hb4⟩
      have hz4 := hb4.size
      obtain ⟨A4, n4, c4, rfl, hs4⟩ := hown4.sl
      have HS4 := Lib.hid hs4
      have HB4 := Lib.hid (HB3.out.trans (hb4.mono (by omega)))
      have HO4 := Lib.hid (HO3.out.below hb4)
      have kx4 : w4.cell? ⟨wr.heap.size, 0, none⟩ = some (.int .i32 x) := by rw [hb4.cell (by show wr.heap.size < _; omega)]; exact kx3
      have HLm := Lib.hid (show (bodyB (-1) (List.take k ps) ++ Lib.uvarint (Lib.zigzag (wrap32 (x - v)))).length + (Lib.uvarint y.toNat).length ≤ 140737488355328 by have := HLn.out; have := HU1.out; have := HU2.out; rw [List.length_append]; omega)
      clear hown4 hb4 hs4 kx3 ky3
      go_wp2_with (at_builtin; refine wpList_ap8 rfl (.tmp 21) _ rfl w.heap.size v3 _ rfl HO4.out w4.heap.size A4 n4 c4 _ rfl HS4.out HLm.out (by omega) ?_; intro v5 w5 hown5 hg5 hat5; have HO5 := Lib.hid hown5; have HB5 := Lib.hid (HB4.out.grown hg5 (by omega) (fun k hk => (HO4.out.lt k hk).1)); have hz5 := hg5.size; have kx5 := cell_grown hg5 kx4 HNe3.out; clear hown5 hg5 hat5 kx4)
      go_roundw
      case rel =>
        refine ⟨k + 1, x, by go_num, by omega, rfl, by rw [HD.out, lastV_snoc], ⟨x0, x1⟩, ?_, HB5.out⟩
        rw [HD.out, bodyB_snoc, ← HV.out]
        have h := HO5.out
        rw [List.append_assoc] at h
        exact h
      case measure => simp [intOf]; omega
    · have HLz := Lib.hid (show (bodyB (-1) (List.take k ps)).length + [(0 : UInt8)].length ≤ 140737488355328 by have := HLn.out; simp; omega)
      go_wp2_with (at_builtin; refine wpList_ap8 rfl _ _ rfl w.heap.size u3 _ rfl (HO.out.alloc _) _ _ _ _ [0] rfl (sl_new _ _ _ rfl) HLz.out (by simp; omega) ?_; intro v1 w1 hown1 hg1 _; have HO1 := Lib.hid hown1; have HB1 := Lib.hid ((HB.out.alloc hbs _).grown hg1 (by simp; omega) (fun k hk => (HO.out.lt k hk).1)); clear hown1 hg1)
      go_ret
      refine ⟨v1, rfl, ?_, HB1.out⟩
      have h := HO1.out
      rw [List.take_of_length_le (by have := hs.out.len; omega)] at h
      exact h
end Go.Proofs.Ytmadidaiaggheaa
