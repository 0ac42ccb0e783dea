/- The contract of funcpctab. -/
import Derived.Test.YtmadidaiaggheaaFtMem
namespace Go.Proofs.Ytmadidaiaggheaa
open Go.RowKit
set_option linter.unusedVariables false

def FtPost (w : World) (l : List UInt8) (e : Ending) (w' : World) : Prop := ∃ gsym v, e = .returned (.pointer (some ⟨gsym, 0, none⟩)) ∧ w'.cell? ⟨gsym, 1, none⟩ = some v ∧ Own8 w' w.heap.size v l ∧ Below w.heap.size w w'
def FtRel (w0 : World) (n G gbuf gsym : Nat) (pcs : List Int) (size : Int) (before : List Int) (m : Int) (vd vo vc vs vp : Value) (wr : World) : Prop :=
  ∃ (k : Nat) (st : Bool) (old pc : Int) (dst : List UInt8), k ≤ n ∧ vo = .int .i32 old ∧ vc = .int .i64 pc ∧ vs = .bool st ∧ vp = .pointer (nxt n G k) ∧ WSt pcs size before m k st old pc dst ∧ FtI w0 gbuf gsym vd dst wr
def pmeas (G n : Nat) : Value → Nat
  | .pointer (some a) => G + n + 1 - a.block
  | _ => 0

theorem buf_of_own {w : World} {base g : Nat} {xs : List Value} (h : w.ownsRow base 5 1 (.slice (some ⟨g, 0, none⟩) 5 5) 5 xs) : Buf w g := by
  rcases h.2 with ⟨h0, _⟩ | ⟨g', cap, cur, e, _, hh, _, _, hs, _⟩
  · cases h0
  · cases e
    exact ⟨cur, by omega, hh⟩

theorem own_ne_blk {g h n c : Nat} (hne : g ≠ h) : (Value.slice (some ⟨g, 0, none⟩) n c).ownBlock ≠ some h := by
  intro e
  injection e with e
  exact hne e

theorem free_row {w : World} {b : Nat} {cs : Array Value} {t : TypeId} (h : w.heap[b]? = some (.cells cs t (0, 0))) (i : Nat) : w.frozen? ⟨b, i, none⟩ = false := by simp [World.frozen?, h]
theorem beq_of (a b : Int) : (a == b) = decide (a = b) := by by_cases h : a = b <;> simp [h]
theorem pmeas_lt (n G k : Nat) (hk : k < n) : pmeas G n (.pointer (nxt n G (k + 1))) < pmeas G n (.pointer (some ⟨G + k, 0, none⟩)) := by
  unfold nxt
  by_cases h : k + 1 < n
  · rw [if_pos h]; show G + n + 1 - (G + (k + 1)) < G + n + 1 - (G + k); omega
  · rw [if_neg h]; show 0 < G + n + 1 - (G + k); omega

set_option maxRecDepth 100000 in
set_option maxHeartbeats 4000000 in
theorem functab_any (n gc ga gs gf G gb gh bA oA cA bB oB cB : Nat) (pcs : List Int) (size m : Int) (before behind : List Int) (w : World)
    (HP : Hid (PM w w.heap.size n gc ga gs gf G gb gh bA oA cA bB oB cB pcs size m before behind)) (HC : Hid (Code pcs size before m)) (HN : Hid (pcs.length = n)) (hn : Hid (n ≤ 2147483647)) (hn1 : 1 ≤ n) :
    Calls Try.prog 32 #[.pointer (some ⟨gc, 0, none⟩), .pointer (some ⟨gs, 0, none⟩), .func (.func 31) #[] #[.pointer (some ⟨gb, 0, none⟩), .pointer (some ⟨gh, 0, none⟩)], .nilIface] w (FtPost w (tableB (-1) (piecesOf pcs size before m))) := by
  have HZ := Lib.hid (show G < w.heap.size from Nat.lt_of_lt_of_le (Nat.lt_add_of_pos_right hn1) HP.out.l5)
  have HD := Lib.hid (show w.cell? ⟨G, 0, none⟩ = some (.int .i64 0) by have h := (HP.out.pr 0 hn1).1; rw [HC.out.p0] at h; exact h)
  go_enter Try.func32, Try.ntmps32
  have hb2 : Below w.heap.size w ((w.alloc (.cells #[] 5)).alloc (.cells #[.int .i64 0, .slice none 0 0, .pointer none] 71)) := ((Below.refl _ _).alloc (Nat.le_refl _) _).alloc (by simp) _
  have HP2 := Lib.hid (HP.out.below hb2)
  have HB2 := Lib.hid hb2
  have e1 := HP2.out.c4
  have e2 := HP2.out.c5
  have e3 := (HP2.out.pr 0 hn1).1
  rw [HC.out.p0] at e3
  simp only [Nat.add_zero] at e3
  have HO2 : Hid (Own8 ((w.alloc (.cells #[] 5)).alloc (.cells #[.int .i64 0, .slice none 0 0, .pointer none] 71)) w.heap.size (.slice (some ⟨w.heap.size, 0, none⟩) 0 0) []) := Lib.hid (Own8.alloc (l := []) (show Own8 _ _ _ [] from World.ownsRow_made w #[] 0 (Nat.le_refl _) (by unfold maxLen; omega) rfl) _)
  have HS2 : Hid (SymB ((w.alloc (.cells #[] 5)).alloc (.cells #[.int .i64 0, .slice none 0 0, .pointer none] 71)) (w.heap.size + 1)) := Lib.hid (by
    have h := heap_alloc_new (w.alloc (.cells #[] 5)) (.cells #[.int .i64 0, .slice none 0 0, .pointer none] 71)
    have e : (w.alloc (.cells #[] 5)).heap.size = w.heap.size + 1 := by simp
    rw [e] at h
    exact h)
  clear hb2
  go_wp2_with fail
  refine (func_any gs _ _ e1).mono ?_
  rintro e w' ⟨rfl, rfl⟩
  obtain ⟨i0, hi0, hz0, hz1, hz2⟩ := info_parts info8
  go_wp2_with (at_make; refine wpList_make_full _ rfl (.const (.int .i64 5)) (.const (.int .i64 5)) 24 rfl w.heap.size 5 i0 (.int .u8 0) 1 Try.underlying24 hi0 hz0 hz1 .i64 .i64 5 5 5 rfl rfl rfl rfl (by rw [hz2]; decide) (by decide) (by simp; omega) ?_; intro w3 hown3 hg3; have hb3 : Below w.heap.size w w3 := HB2.out.grown hg3 HB2.out.size (fun k hk => by cases hk); have HP3 := Lib.hid (HP.out.below hb3); have f2 := HP3.out.c5; have hown4 : w3.ownsRow w.heap.size 5 1 (.slice (some ⟨w.heap.size + 1 + 1, 0, none⟩) 5 5) 5 (madeCells (Value.int .u8 0).cells (5 * 1)).toList := (by simpa using hown3); have HI3 : Hid (FtI w (w.heap.size + 1 + 1) (w.heap.size + 1) (.slice (some ⟨w.heap.size, 0, none⟩) 0 0) [] w3) := Lib.hid ⟨hb3, Own8.kept HO2.out hg3 (.inr (by simp [Value.ownBlock])), buf_of_own hown4, (hg3.block _ (by simp) (by simp)).trans HS2.out, own_ne_blk (by omega), own_ne_blk (by omega), by omega, by omega, by omega⟩; clear hown3 hown4 hg3 hb3)
  have HG0 := Lib.hid (show Value.pointer (some ⟨G, 0, none⟩) = .pointer (nxt n G 0) by unfold nxt; rw [if_pos (show 0 < n from hn1)]; rfl)
  have HW0 := Lib.hid (WSt.zero HC.out)
  generalize w.heap.size + 1 + 1 = gbuf at *
  generalize w.heap.size + 1 = gsym at *
  clear HZ HD HO2 HS2 f2 e1 e2 e3 HP2 HB2 HP3
  go_loopw [9, 12, 14, 16, 17] (fun vd vo vc vs vp wr => FtRel w n G gbuf gsym pcs size before m vd vo vc vs vp wr) (fun _ _ _ _ vp _ => pmeas G n vp)
  case atStart => exact ⟨0, false, -1, 0, [], Nat.zero_le _, rfl, rfl, rfl, HG0.out, HW0.out, HI3.out⟩
  case round =>
    obtain ⟨k, st, old, pc, dst, hk, rfl, rfl, rfl, rfl, hW, hI⟩ := hrel
    have HW := Lib.hid hW
    have HI := Lib.hid hI
    have HPr := Lib.hid (HP.out.below hI.below)
    clear hW hI HI3 HW0 HG0
    by_cases hlt : k < n
    · obtain ⟨p1, p2, p3⟩ := HPr.out.pr k hlt
      have hx : nxt n G k = some ⟨G + k, 0, none⟩ := if_pos hlt
      rw [hx]
      have q1 := HPr.out.va
      have q2 := HPr.out.vac k hlt
      obtain ⟨x, hxv⟩ : ∃ x, vAt before k = x := ⟨_, rfl⟩
      obtain ⟨y, hyv⟩ : ∃ y, vAt behind k = y := ⟨_, rfl⟩
      obtain ⟨pk, hpk⟩ : ∃ pk, pAt pcs size k = pk := ⟨_, rfl⟩
      rw [hxv] at q2
      have HXV := Lib.hid hxv
      have HYV := Lib.hid hyv
      have HPK := Lib.hid hpk
      have HNn : Hid (n ≤ 9223372036854775807) := Lib.hid (by have := hn.out; omega)
      clear hxv hyv hpk
      go_wp2_with fail
      refine (val_before _ _ _ _ _ (G + k) gb bA oA n cA k x wr q1 p3 hlt q2 HNn.out).mono ?_
      rintro e w1 ⟨rfl, j1, hw1⟩
      have HI1 : Hid (FtI w gbuf gsym u9 dst w1) := Lib.hid (by rw [hw1]; exact HI.out.drewN j1)
      have HP1 := Lib.hid (HP.out.below HI1.out.below)
      clear hw1 p1 p2 p3 q1 q2 HI HPr
      by_cases hs : st = true ∧ x = old
      · obtain ⟨hst, hxo⟩ := hs
        subst hst
        subst hxo
        have q1 := HP1.out.vb
        have q2 := HP1.out.vbc k hlt
        have p3 := (HP1.out.pr k hlt).2.2
        rw [HYV.out] at q2
        go_wp2_with fail
        refine (val_behind _ _ _ _ _ (G + k) gh bB oB n cB k y w1 q1 p3 hlt q2 HNn.out).mono ?_
        rintro e w2 ⟨rfl, j2, hw2⟩
        have HI2 : Hid (FtI w gbuf gsym u9 dst w2) := Lib.hid (by rw [hw2]; exact HI1.out.drewN j2)
        have p2 := ((HP.out.below HI2.out.below).pr k hlt).2.1
        clear hw2 q1 q2 p3
        go_wp2
        go_roundw
        case rel => exact ⟨k + 1, true, x, pc, dst, hlt, rfl, rfl, rfl, rfl, HW.out.same HC.out (by rw [HN.out]; exact hlt) HXV.out, HI2.out⟩
        case measure => exact pmeas_lt n G k hlt
      · have hq : (x = old ∧ st = false) ∨ x ≠ old := by
          by_cases hxo : x = old
          · refine .inl ⟨hxo, ?_⟩
            cases st
            · rfl
            · exact absurd ⟨rfl, hxo⟩ hs
          · exact .inr hxo
        have HQ := Lib.hid hq
        clear hs hq
        have p1 := (HP1.out.pr k hlt).1
        have p2 := (HP1.out.pr k hlt).2.1
        rw [HPK.out] at p1
        by_cases hk1 : k + 1 < n
        · have HX1 := Lib.hid (show nxt n G (k + 1) = some ⟨G + (k + 1), 0, none⟩ from if_pos hk1)
          rw [HX1.out] at p2
          obtain ⟨pn, hpn⟩ : ∃ pn, pAt pcs size (k + 1) = pn := ⟨_, rfl⟩
          have HPN := Lib.hid hpn
          have r1 := (HP1.out.pr (k + 1) hk1).1
          rw [hpn] at r1
          clear hpn
          by_cases heq : pn = pk
          · subst heq
            have hE := Lib.hid (show pAt pcs size (k + 1) = pAt pcs size k by rw [HPN.out, HPK.out])
            have q1 := HP1.out.vb
            have q2 := HP1.out.vbc k hlt
            have p3 := (HP1.out.pr k hlt).2.2
            rw [HYV.out] at q2
            have e2 : (pn == pn) = true := by simp
            rcases HQ.out with ⟨hxo, hst⟩ | hxo
            · subst hst
              have e1 : (x == old) = true := by simpa using hxo
              clear hxo
              go_wp2_with fail
              go_quiet (fail)
              go_wp2_with fail
              refine (val_behind _ _ _ _ _ (G + k) gh bB oB n cB k y _ ?_ ?_ hlt ?_ HNn.out).mono ?_
              · exact q1
              · exact p3
              · exact q2
              rintro e w2 ⟨rfl, j2, hw2⟩
              have HI2 : Hid (FtI w gbuf gsym u9 dst w2) := Lib.hid (by rw [hw2]; exact (HI1.out.drewN _).drewN j2)
              have p2' := ((HP.out.below HI2.out.below).pr k hlt).2.1
              clear hw2 q1 q2 p3 p1 p2 r1
              go_wp2
              go_roundw
              case rel => exact ⟨k + 1, _, _, pc, dst, hlt, rfl, rfl, rfl, rfl, HW.out.empty hE.out, HI2.out⟩
              case measure => exact pmeas_lt n G k hlt
            · have e1 : (x == old) = false := by simpa using hxo
              clear hxo
              go_wp2_with fail
              go_quiet (fail)
              go_wp2_with fail
              refine (val_behind _ _ _ _ _ (G + k) gh bB oB n cB k y _ ?_ ?_ hlt ?_ HNn.out).mono ?_
              · exact q1
              · exact p3
              · exact q2
              rintro e w2 ⟨rfl, j2, hw2⟩
              have HI2 : Hid (FtI w gbuf gsym u9 dst w2) := Lib.hid (by rw [hw2]; exact (HI1.out.drewN _).drewN j2)
              have p2' := ((HP.out.below HI2.out.below).pr k hlt).2.1
              clear hw2 q1 q2 p3 p1 p2 r1
              go_wp2
              go_roundw
              case rel => exact ⟨k + 1, _, _, pc, dst, hlt, rfl, rfl, rfl, rfl, HW.out.empty hE.out, HI2.out⟩
              case measure => exact pmeas_lt n G k hlt
          · have e2 : (pn == pk) = false := by simpa using heq
            have HE := Lib.hid (show pAt pcs size (k + 1) ≠ pAt pcs size k by rw [HPN.out, HPK.out]; exact heq)
            obtain ⟨d, hd⟩ : ∃ d, wrap32 (x - old) = d := ⟨_, rfl⟩
            have HDi : Hid (-9223372036854775808 ≤ d ∧ d ≤ 9223372036854775807) := Lib.hid (by have := wrap32_in (x - old); rw [hd] at this; unfold inI32 at this; omega)
            have HDd := Lib.hid hd
            have hd0 : -2147483648 ≤ d := by have := wrap32_in (x - old); rw [hd] at this; exact this.1
            have hd1 : d ≤ 2147483647 := by have := wrap32_in (x - old); rw [hd] at this; exact this.2
            have HL5 : Hid ((Lib.uvarint (Lib.zigzag d)).length ≤ 5) := Lib.hid (by rw [← hd]; exact uv5 _ (zig_lt _))
            clear heq
            rcases HQ.out with ⟨hxo, hst⟩ | hxo
            · subst hst
              have e1 : (x == old) = true := by simpa using hxo
              clear hxo
              go_wp2_with fail
              go_quiet (fail)
              go_wp2_with fail
              refine (Try.binary_PutVarint gbuf 0 5 5 d HDi.out.1 HDi.out.2 _ HL5.out ?_).mono ?_
              · intro j hj
                exact (HI1.out.drewN _).buf.cells j (by have := HL5.out; omega)
              rintro e w2 ⟨rfl, hw2⟩
              have HI2 : Hid (FtI w gbuf gsym u9 dst w2) := Lib.hid (by rw [hw2]; exact (HI1.out.drewN _).put _)
              have HSL : Hid (Sl w2 w2.heap.size (some ⟨gbuf, 0, none⟩) (Lib.uvarint (Lib.zigzag d)).length 5 (Lib.uvarint (Lib.zigzag d))) := Lib.hid (by rw [hw2]; exact ((HI1.out.drewN _).buf.sl _ HL5.out).more (by rw [size_setCells]; exact Nat.le_refl _))
              clear hw2
              have hl5 := HL5.out
              generalize hl : Lib.uvarint (Lib.zigzag d) = l at *
              have HLl := Lib.hid hl
              generalize hln : l.length = ln at *
              clear hl
              have HLD := Lib.hid (HW.out.len HC.out (by rw [HN.out]; exact hk))
              go_wp2_with (at_builtin; refine wpList_ap8 rfl (.tmp 135) (.tmp 138) rfl w.heap.size u9 dst rfl HI2.out.own w2.heap.size (some ⟨gbuf, 0, none⟩) ln 5 l rfl HSL.out (by have := HLD.out; have := hn.out; omega) HI2.out.below.size ?_; intro v3 w3 hown3 hg3 hat3; have HI3 := Lib.hid (HI2.out.app hown3 hg3 hat3); have HP3 := Lib.hid (HP.out.below HI3.out.below); have q1 := HP3.out.vb; have q2 := HP3.out.vbc k hlt; have p3 := (HP3.out.pr k hlt).2.2; clear hown3 hg3 hat3)
              refine (val_behind _ _ _ _ _ (G + k) gh bB oB n cB k y w3 ?_ ?_ hlt ?_ HNn.out).mono ?_
              · exact q1
              · exact p3
              · rw [← HYV.out]; exact q2
              rintro e w4 ⟨rfl, j4, hw4⟩
              have HI4 : Hid (FtI w gbuf gsym v3 (dst ++ l) w4) := Lib.hid (by rw [hw4]; exact HI3.out.drewN j4)
              have p2' := ((HP.out.below HI4.out.below).pr k hlt).2.1
              clear hw4 q1 q2 p3
              go_wp2
              go_roundw
              case rel =>
                have hwf := HW.out.first HC.out (by rw [HN.out]; exact hlt) HE.out
                rw [HXV.out, HDd.out, HLl.out] at hwf
                exact ⟨k + 1, true, x, pc, dst ++ l, hlt, rfl, rfl, rfl, rfl, hwf, HI4.out⟩
              case measure => exact pmeas_lt n G k hlt
            · have e1 : (x == old) = false := by simpa using hxo
              have HXO := Lib.hid hxo
              clear hxo
              cases st
              · skip
                go_wp2_with fail
                go_quiet (fail)
                go_wp2_with fail
                refine (Try.binary_PutVarint gbuf 0 5 5 d HDi.out.1 HDi.out.2 _ HL5.out ?_).mono ?_
                · intro j hj
                  exact (HI1.out.drewN _).buf.cells j (by have := HL5.out; omega)
                rintro e w2 ⟨rfl, hw2⟩
                have HI2 : Hid (FtI w gbuf gsym u9 dst w2) := Lib.hid (by rw [hw2]; exact (HI1.out.drewN _).put _)
                have HSL : Hid (Sl w2 w2.heap.size (some ⟨gbuf, 0, none⟩) (Lib.uvarint (Lib.zigzag d)).length 5 (Lib.uvarint (Lib.zigzag d))) := Lib.hid (by rw [hw2]; exact ((HI1.out.drewN _).buf.sl _ HL5.out).more (by rw [size_setCells]; exact Nat.le_refl _))
                clear hw2
                have hl5 := HL5.out
                generalize hl : Lib.uvarint (Lib.zigzag d) = l at *
                have HLl := Lib.hid hl
                generalize hln : l.length = ln at *
                clear hl
                have HLD := Lib.hid (HW.out.len HC.out (by rw [HN.out]; exact hk))
                go_wp2_with (at_builtin; refine wpList_ap8 rfl (.tmp 135) (.tmp 138) rfl w.heap.size u9 dst rfl HI2.out.own w2.heap.size (some ⟨gbuf, 0, none⟩) ln 5 l rfl HSL.out (by have := HLD.out; have := hn.out; omega) HI2.out.below.size ?_; intro v3 w3 hown3 hg3 hat3; have HI3 := Lib.hid (HI2.out.app hown3 hg3 hat3); have HP3 := Lib.hid (HP.out.below HI3.out.below); have q1 := HP3.out.vb; have q2 := HP3.out.vbc k hlt; have p3 := (HP3.out.pr k hlt).2.2; clear hown3 hg3 hat3)
                refine (val_behind _ _ _ _ _ (G + k) gh bB oB n cB k y w3 ?_ ?_ hlt ?_ HNn.out).mono ?_
                · exact q1
                · exact p3
                · rw [← HYV.out]; exact q2
                rintro e w4 ⟨rfl, j4, hw4⟩
                have HI4 : Hid (FtI w gbuf gsym v3 (dst ++ l) w4) := Lib.hid (by rw [hw4]; exact HI3.out.drewN j4)
                have p2' := ((HP.out.below HI4.out.below).pr k hlt).2.1
                clear hw4 q1 q2 p3
                go_wp2
                go_roundw
                case rel =>
                  have hwf := HW.out.first HC.out (by rw [HN.out]; exact hlt) HE.out
                  rw [HXV.out, HDd.out, HLl.out] at hwf
                  exact ⟨k + 1, true, x, pc, dst ++ l, hlt, rfl, rfl, rfl, rfl, hwf, HI4.out⟩
                case measure => exact pmeas_lt n G k hlt
              · go_wp2_with fail
                go_quiet (fail)
                have c1 := HP1.out.c1
                have c2 := HP1.out.c2
                have hm0 : (m == 0) = false := by have := HC.out.m1; simp; omega
                obtain ⟨hpc0, hpc1⟩ := HW.out.pc_le
                rw [HPK.out] at hpc1
                have hpk1 : pk < 2147483648 := by have := HC.out.le_size (i := k) (by rw [HN.out]; exact hk); have := HC.out.s31; have := HPK.out; omega
                have hm1 := HC.out.m1
                have hm2 := HC.out.m16
                go_wp2_with fail
                go_quiet (fail)
                have hq0 : 0 ≤ (pk - pc) / m := Int.ediv_nonneg (by omega) (by omega)
                have hq1 : (pk - pc) / m ≤ pk - pc := Int.ediv_le_self _ (by omega)
                obtain ⟨D, hD⟩ : ∃ D : Nat, ((pk - pc) / m).toNat = D := ⟨_, rfl⟩
                have hwq : IntKind.u64.wrap ((pk - pc) / m) = ((D : Nat) : Int) := by rw [IntKind.wrap_u64]; omega
                have HU5 : Hid ((Lib.uvarint D).length ≤ 5) := Lib.hid (uv5 _ (by omega))
                have HUD : Hid (D < 18446744073709551616) := Lib.hid (by omega)
                have HDD := Lib.hid hD
                clear hD hq0 hq1 hpc0 hpc1 hpk1
                go_wp2_with fail
                refine (Try.binary_PutUvarint gbuf 0 5 5 D HUD.out _ HU5.out ?_).mono ?_
                · intro j hj
                  exact (HI1.out.drewN _).buf.cells j (by have := HU5.out; omega)
                rintro e w2 ⟨rfl, hw2⟩
                have HI2 : Hid (FtI w gbuf gsym u9 dst w2) := Lib.hid (by rw [hw2]; exact (HI1.out.drewN _).put _)
                have HSL : Hid (Sl w2 w2.heap.size (some ⟨gbuf, 0, none⟩) (Lib.uvarint D).length 5 (Lib.uvarint D)) := Lib.hid (by rw [hw2]; exact ((HI1.out.drewN _).buf.sl _ HU5.out).more (by rw [size_setCells]; exact Nat.le_refl _))
                have hl5 := HU5.out
                clear hw2 p1 p2 c1 c2 hwq
                generalize hl : Lib.uvarint D = l at *
                have HLl := Lib.hid hl
                generalize hln : l.length = ln at *
                clear hl
                have HLD := Lib.hid (HW.out.len HC.out (by rw [HN.out]; exact hk))
                go_wp2_with (at_builtin; refine wpList_ap8 rfl (.tmp 119) (.tmp 122) rfl w.heap.size u9 dst rfl HI2.out.own w2.heap.size (some ⟨gbuf, 0, none⟩) ln 5 l rfl HSL.out (by have := HLD.out; have := hn.out; omega) HI2.out.below.size ?_; intro v3 w3 hown3 hg3 hat3; have HI3 := Lib.hid (HI2.out.app hown3 hg3 hat3); have HP3 := Lib.hid (HP.out.below HI3.out.below); have p1 := (HP3.out.pr k hlt).1; clear hown3 hg3 hat3)
                rw [HPK.out] at p1
                go_wp2_with fail
                refine (Try.binary_PutVarint gbuf 0 5 5 d HDi.out.1 HDi.out.2 _ HL5.out ?_).mono ?_
                · intro j hj
                  exact HI3.out.buf.cells j (by have := HL5.out; omega)
                rintro e w5 ⟨rfl, hw5⟩
                have HI5 : Hid (FtI w gbuf gsym v3 (dst ++ l) w5) := Lib.hid (by rw [hw5]; exact HI3.out.put _)
                have HSL5 : Hid (Sl w5 w5.heap.size (some ⟨gbuf, 0, none⟩) (Lib.uvarint (Lib.zigzag d)).length 5 (Lib.uvarint (Lib.zigzag d))) := Lib.hid (by rw [hw5]; exact (HI3.out.buf.sl _ HL5.out).more (by rw [size_setCells]; exact Nat.le_refl _))
                have hl52 := HL5.out
                clear hw5 p1
                generalize hl2 : Lib.uvarint (Lib.zigzag d) = l2 at *
                have HLl2 := Lib.hid hl2
                generalize hln2 : l2.length = ln2 at *
                clear hl2
                have HLD5 : Hid ((dst ++ l).length ≤ 10 * k + 10) := Lib.hid (by rw [List.length_append]; have := HLD.out; omega)
                go_wp2_with (at_builtin; refine wpList_ap8 rfl (.tmp 135) (.tmp 138) rfl w.heap.size v3 (dst ++ l) rfl HI5.out.own w5.heap.size (some ⟨gbuf, 0, none⟩) ln2 5 l2 rfl HSL5.out (by have := HLD5.out; have := hn.out; omega) HI5.out.below.size ?_; intro v6 w6 hown6 hg6 hat6; have HI6 := Lib.hid (HI5.out.app hown6 hg6 hat6); have HP6 := Lib.hid (HP.out.below HI6.out.below); have q1 := HP6.out.vb; have q2 := HP6.out.vbc k hlt; have p3 := (HP6.out.pr k hlt).2.2; clear hown6 hg6 hat6)
                refine (val_behind _ _ _ _ _ (G + k) gh bB oB n cB k y w6 ?_ ?_ hlt ?_ HNn.out).mono ?_
                · exact q1
                · exact p3
                · rw [← HYV.out]; exact q2
                rintro e w7 ⟨rfl, j7, hw7⟩
                have HI7 : Hid (FtI w gbuf gsym v6 (dst ++ l ++ l2) w7) := Lib.hid (by rw [hw7]; exact HI6.out.drewN j7)
                have p2' := ((HP.out.below HI7.out.below).pr k hlt).2.1
                clear hw7 q1 q2 p3
                go_wp2
                go_roundw
                case rel =>
                  have hwf := HW.out.more HC.out (by rw [HN.out]; exact hlt) (by rw [HXV.out]; exact HXO.out) HE.out
                  rw [HXV.out, HDd.out, HLl2.out, HPK.out, HDD.out, HLl.out, ← HPK.out] at hwf
                  exact ⟨k + 1, true, x, pAt pcs size k, dst ++ l ++ l2, hlt, rfl, rfl, rfl, rfl, hwf, HI7.out⟩
                case measure => exact pmeas_lt n G k hlt
        · have HX1 := Lib.hid (show nxt n G (k + 1) = none from if_neg hk1)
          rw [HX1.out] at p2
          have HE := Lib.hid (show pAt pcs size (k + 1) ≠ pAt pcs size k by
            have h := HC.out.step_end
            rw [show pcs.length - 1 = k by rw [HN.out]; omega] at h
            omega)
          obtain ⟨d, hd⟩ : ∃ d, wrap32 (x - old) = d := ⟨_, rfl⟩
          have HDi : Hid (-9223372036854775808 ≤ d ∧ d ≤ 9223372036854775807) := Lib.hid (by have := wrap32_in (x - old); rw [hd] at this; unfold inI32 at this; omega)
          have HDd := Lib.hid hd
          have hd0 : -2147483648 ≤ d := by have := wrap32_in (x - old); rw [hd] at this; exact this.1
          have hd1 : d ≤ 2147483647 := by have := wrap32_in (x - old); rw [hd] at this; exact this.2
          have HL5 : Hid ((Lib.uvarint (Lib.zigzag d)).length ≤ 5) := Lib.hid (by rw [← hd]; exact uv5 _ (zig_lt _))
          rcases HQ.out with ⟨hxo, hst⟩ | hxo
          · subst hst
            have e1 : (x == old) = true := by simpa using hxo
            clear hxo
            go_wp2_with fail
            go_quiet (fail)
            go_wp2_with fail
            refine (Try.binary_PutVarint gbuf 0 5 5 d HDi.out.1 HDi.out.2 _ HL5.out ?_).mono ?_
            · intro j hj
              exact (HI1.out.drewN _).buf.cells j (by have := HL5.out; omega)
            rintro e w2 ⟨rfl, hw2⟩
            have HI2 : Hid (FtI w gbuf gsym u9 dst w2) := Lib.hid (by rw [hw2]; exact (HI1.out.drewN _).put _)
            have HSL : Hid (Sl w2 w2.heap.size (some ⟨gbuf, 0, none⟩) (Lib.uvarint (Lib.zigzag d)).length 5 (Lib.uvarint (Lib.zigzag d))) := Lib.hid (by rw [hw2]; exact ((HI1.out.drewN _).buf.sl _ HL5.out).more (by rw [size_setCells]; exact Nat.le_refl _))
            clear hw2
            have hl5 := HL5.out
            generalize hl : Lib.uvarint (Lib.zigzag d) = l at *
            have HLl := Lib.hid hl
            generalize hln : l.length = ln at *
            clear hl
            have HLD := Lib.hid (HW.out.len HC.out (by rw [HN.out]; exact hk))
            go_wp2_with (at_builtin; refine wpList_ap8 rfl (.tmp 135) (.tmp 138) rfl w.heap.size u9 dst rfl HI2.out.own w2.heap.size (some ⟨gbuf, 0, none⟩) ln 5 l rfl HSL.out (by have := HLD.out; have := hn.out; omega) HI2.out.below.size ?_; intro v3 w3 hown3 hg3 hat3; have HI3 := Lib.hid (HI2.out.app hown3 hg3 hat3); have HP3 := Lib.hid (HP.out.below HI3.out.below); have q1 := HP3.out.vb; have q2 := HP3.out.vbc k hlt; have p3 := (HP3.out.pr k hlt).2.2; clear hown3 hg3 hat3)
            refine (val_behind _ _ _ _ _ (G + k) gh bB oB n cB k y w3 ?_ ?_ hlt ?_ HNn.out).mono ?_
            · exact q1
            · exact p3
            · rw [← HYV.out]; exact q2
            rintro e w4 ⟨rfl, j4, hw4⟩
            have HI4 : Hid (FtI w gbuf gsym v3 (dst ++ l) w4) := Lib.hid (by rw [hw4]; exact HI3.out.drewN j4)
            have p2' := ((HP.out.below HI4.out.below).pr k hlt).2.1
            clear hw4 q1 q2 p3
            go_wp2
            go_roundw
            case rel =>
              have hwf := HW.out.first HC.out (by rw [HN.out]; exact hlt) HE.out
              rw [HXV.out, HDd.out, HLl.out] at hwf
              exact ⟨k + 1, true, x, pc, dst ++ l, hlt, rfl, rfl, rfl, rfl, hwf, HI4.out⟩
            case measure => exact pmeas_lt n G k hlt
          · have e1 : (x == old) = false := by simpa using hxo
            have HXO := Lib.hid hxo
            clear hxo
            cases st
            · skip
              go_wp2_with fail
              go_quiet (fail)
              go_wp2_with fail
              refine (Try.binary_PutVarint gbuf 0 5 5 d HDi.out.1 HDi.out.2 _ HL5.out ?_).mono ?_
              · intro j hj
                exact (HI1.out.drewN _).buf.cells j (by have := HL5.out; omega)
              rintro e w2 ⟨rfl, hw2⟩
              have HI2 : Hid (FtI w gbuf gsym u9 dst w2) := Lib.hid (by rw [hw2]; exact (HI1.out.drewN _).put _)
              have HSL : Hid (Sl w2 w2.heap.size (some ⟨gbuf, 0, none⟩) (Lib.uvarint (Lib.zigzag d)).length 5 (Lib.uvarint (Lib.zigzag d))) := Lib.hid (by rw [hw2]; exact ((HI1.out.drewN _).buf.sl _ HL5.out).more (by rw [size_setCells]; exact Nat.le_refl _))
              clear hw2
              have hl5 := HL5.out
              generalize hl : Lib.uvarint (Lib.zigzag d) = l at *
              have HLl := Lib.hid hl
              generalize hln : l.length = ln at *
              clear hl
              have HLD := Lib.hid (HW.out.len HC.out (by rw [HN.out]; exact hk))
              go_wp2_with (at_builtin; refine wpList_ap8 rfl (.tmp 135) (.tmp 138) rfl w.heap.size u9 dst rfl HI2.out.own w2.heap.size (some ⟨gbuf, 0, none⟩) ln 5 l rfl HSL.out (by have := HLD.out; have := hn.out; omega) HI2.out.below.size ?_; intro v3 w3 hown3 hg3 hat3; have HI3 := Lib.hid (HI2.out.app hown3 hg3 hat3); have HP3 := Lib.hid (HP.out.below HI3.out.below); have q1 := HP3.out.vb; have q2 := HP3.out.vbc k hlt; have p3 := (HP3.out.pr k hlt).2.2; clear hown3 hg3 hat3)
              refine (val_behind _ _ _ _ _ (G + k) gh bB oB n cB k y w3 ?_ ?_ hlt ?_ HNn.out).mono ?_
              · exact q1
              · exact p3
              · rw [← HYV.out]; exact q2
              rintro e w4 ⟨rfl, j4, hw4⟩
              have HI4 : Hid (FtI w gbuf gsym v3 (dst ++ l) w4) := Lib.hid (by rw [hw4]; exact HI3.out.drewN j4)
              have p2' := ((HP.out.below HI4.out.below).pr k hlt).2.1
              clear hw4 q1 q2 p3
              go_wp2
              go_roundw
              case rel =>
                have hwf := HW.out.first HC.out (by rw [HN.out]; exact hlt) HE.out
                rw [HXV.out, HDd.out, HLl.out] at hwf
                exact ⟨k + 1, true, x, pc, dst ++ l, hlt, rfl, rfl, rfl, rfl, hwf, HI4.out⟩
              case measure => exact pmeas_lt n G k hlt
            · go_wp2_with fail
              go_quiet (fail)
              have c1 := HP1.out.c1
              have c2 := HP1.out.c2
              have hm0 : (m == 0) = false := by have := HC.out.m1; simp; omega
              obtain ⟨hpc0, hpc1⟩ := HW.out.pc_le
              rw [HPK.out] at hpc1
              have hpk1 : pk < 2147483648 := by have := HC.out.le_size (i := k) (by rw [HN.out]; exact hk); have := HC.out.s31; have := HPK.out; omega
              have hm1 := HC.out.m1
              have hm2 := HC.out.m16
              go_wp2_with fail
              go_quiet (fail)
              have hq0 : 0 ≤ (pk - pc) / m := Int.ediv_nonneg (by omega) (by omega)
              have hq1 : (pk - pc) / m ≤ pk - pc := Int.ediv_le_self _ (by omega)
              obtain ⟨D, hD⟩ : ∃ D : Nat, ((pk - pc) / m).toNat = D := ⟨_, rfl⟩
              have hwq : IntKind.u64.wrap ((pk - pc) / m) = ((D : Nat) : Int) := by rw [IntKind.wrap_u64]; omega
              have HU5 : Hid ((Lib.uvarint D).length ≤ 5) := Lib.hid (uv5 _ (by omega))
              have HUD : Hid (D < 18446744073709551616) := Lib.hid (by omega)
              have HDD := Lib.hid hD
              clear hD hq0 hq1 hpc0 hpc1 hpk1
              go_wp2_with fail
              refine (Try.binary_PutUvarint gbuf 0 5 5 D HUD.out _ HU5.out ?_).mono ?_
              · intro j hj
                exact (HI1.out.drewN _).buf.cells j (by have := HU5.out; omega)
              rintro e w2 ⟨rfl, hw2⟩
              have HI2 : Hid (FtI w gbuf gsym u9 dst w2) := Lib.hid (by rw [hw2]; exact (HI1.out.drewN _).put _)
              have HSL : Hid (Sl w2 w2.heap.size (some ⟨gbuf, 0, none⟩) (Lib.uvarint D).length 5 (Lib.uvarint D)) := Lib.hid (by rw [hw2]; exact ((HI1.out.drewN _).buf.sl _ HU5.out).more (by rw [size_setCells]; exact Nat.le_refl _))
              have hl5 := HU5.out
              clear hw2 p1 p2 c1 c2 hwq
              generalize hl : Lib.uvarint D = l at *
              have HLl := Lib.hid hl
              generalize hln : l.length = ln at *
              clear hl
              have HLD := Lib.hid (HW.out.len HC.out (by rw [HN.out]; exact hk))
              go_wp2_with (at_builtin; refine wpList_ap8 rfl (.tmp 119) (.tmp 122) rfl w.heap.size u9 dst rfl HI2.out.own w2.heap.size (some ⟨gbuf, 0, none⟩) ln 5 l rfl HSL.out (by have := HLD.out; have := hn.out; omega) HI2.out.below.size ?_; intro v3 w3 hown3 hg3 hat3; have HI3 := Lib.hid (HI2.out.app hown3 hg3 hat3); have HP3 := Lib.hid (HP.out.below HI3.out.below); have p1 := (HP3.out.pr k hlt).1; clear hown3 hg3 hat3)
              rw [HPK.out] at p1
              go_wp2_with fail
              refine (Try.binary_PutVarint gbuf 0 5 5 d HDi.out.1 HDi.out.2 _ HL5.out ?_).mono ?_
              · intro j hj
                exact HI3.out.buf.cells j (by have := HL5.out; omega)
              rintro e w5 ⟨rfl, hw5⟩
              have HI5 : Hid (FtI w gbuf gsym v3 (dst ++ l) w5) := Lib.hid (by rw [hw5]; exact HI3.out.put _)
              have HSL5 : Hid (Sl w5 w5.heap.size (some ⟨gbuf, 0, none⟩) (Lib.uvarint (Lib.zigzag d)).length 5 (Lib.uvarint (Lib.zigzag d))) := Lib.hid (by rw [hw5]; exact (HI3.out.buf.sl _ HL5.out).more (by rw [size_setCells]; exact Nat.le_refl _))
              have hl52 := HL5.out
              clear hw5 p1
              generalize hl2 : Lib.uvarint (Lib.zigzag d) = l2 at *
              have HLl2 := Lib.hid hl2
              generalize hln2 : l2.length = ln2 at *
              clear hl2
              have HLD5 : Hid ((dst ++ l).length ≤ 10 * k + 10) := Lib.hid (by rw [List.length_append]; have := HLD.out; omega)
              go_wp2_with (at_builtin; refine wpList_ap8 rfl (.tmp 135) (.tmp 138) rfl w.heap.size v3 (dst ++ l) rfl HI5.out.own w5.heap.size (some ⟨gbuf, 0, none⟩) ln2 5 l2 rfl HSL5.out (by have := HLD5.out; have := hn.out; omega) HI5.out.below.size ?_; intro v6 w6 hown6 hg6 hat6; have HI6 := Lib.hid (HI5.out.app hown6 hg6 hat6); have HP6 := Lib.hid (HP.out.below HI6.out.below); have q1 := HP6.out.vb; have q2 := HP6.out.vbc k hlt; have p3 := (HP6.out.pr k hlt).2.2; clear hown6 hg6 hat6)
              refine (val_behind _ _ _ _ _ (G + k) gh bB oB n cB k y w6 ?_ ?_ hlt ?_ HNn.out).mono ?_
              · exact q1
              · exact p3
              · rw [← HYV.out]; exact q2
              rintro e w7 ⟨rfl, j7, hw7⟩
              have HI7 : Hid (FtI w gbuf gsym v6 (dst ++ l ++ l2) w7) := Lib.hid (by rw [hw7]; exact HI6.out.drewN j7)
              have p2' := ((HP.out.below HI7.out.below).pr k hlt).2.1
              clear hw7 q1 q2 p3
              go_wp2
              go_roundw
              case rel =>
                have hwf := HW.out.more HC.out (by rw [HN.out]; exact hlt) (by rw [HXV.out]; exact HXO.out) HE.out
                rw [HXV.out, HDd.out, HLl2.out, HPK.out, HDD.out, HLl.out, ← HPK.out] at hwf
                exact ⟨k + 1, true, x, pAt pcs size k, dst ++ l ++ l2, hlt, rfl, rfl, rfl, rfl, hwf, HI7.out⟩
              case measure => exact pmeas_lt n G k hlt
    · have hx : nxt n G k = none := if_neg hlt
      rw [hx]
      obtain rfl : k = n := by omega
      have hwd := HW.out
      rw [← HN.out] at hwd
      obtain ⟨hst, hpc0, hpc1, hpcm, hdone⟩ := hwd.done HC.out
      subst hst
      have HDN := Lib.hid hdone
      have c1 := HPr.out.c1
      have c2 := HPr.out.c2
      have c3 := HPr.out.c3
      have hm0 : (m == 0) = false := by have := HC.out.m1; simp; omega
      have hm1 := HC.out.m1
      have hm2 := HC.out.m16
      have hs31 := HC.out.s31
      have hq0 : 0 ≤ (size - pc) / m := Int.ediv_nonneg (by omega) (by omega)
      have hq1 : (size - pc) / m ≤ size - pc := Int.ediv_le_self _ (by omega)
      obtain ⟨D, hD⟩ : ∃ D : Nat, ((size - pc) / m).toNat = D := ⟨_, rfl⟩
      have hwq : IntKind.u64.wrap ((size - pc) / m) = ((D : Nat) : Int) := by rw [IntKind.wrap_u64]; omega
      have hneg : decide ((size - pc) / m < 0) = false := by simp; omega
      have HU5 : Hid ((Lib.uvarint D).length ≤ 5) := Lib.hid (uv5 _ (by omega))
      have HUD : Hid (D < 18446744073709551616) := Lib.hid (by omega)
      rw [hD] at hdone
      have HDN := Lib.hid hdone
      have HLD := Lib.hid (HW.out.len HC.out (by rw [HN.out]; exact Nat.le_refl _))
      clear hD hq1 hwd hpcm hdone
      go_wp2_with fail
      go_quiet (fail)
      clear hpc0 hpc1 hs31
      go_wp2_with fail
      refine (Try.binary_PutUvarint gbuf 0 5 5 D HUD.out _ HU5.out ?_).mono ?_
      · intro j hj
        exact (HI.out.drewN _).buf.cells j (by have := HU5.out; omega)
      rintro e w2 ⟨rfl, hw2⟩
      have HI2 : Hid (FtI w gbuf gsym u9 dst w2) := Lib.hid (by rw [hw2]; exact (HI.out.drewN _).put _)
      have HSL : Hid (Sl w2 w2.heap.size (some ⟨gbuf, 0, none⟩) (Lib.uvarint D).length 5 (Lib.uvarint D)) := Lib.hid (by rw [hw2]; exact ((HI.out.drewN _).buf.sl _ HU5.out).more (by rw [size_setCells]; exact Nat.le_refl _))
      have hl5 := HU5.out
      clear hw2 c1 c2 c3 hwq hneg hq0
      generalize hl : Lib.uvarint D = l at *
      generalize hln : l.length = ln at *
      have HLD2 : Hid ((dst ++ l).length ≤ 10 * k + 10) := Lib.hid (by rw [List.length_append]; have := HLD.out; omega)
      clear hl
      go_wp2_with (first
        | (at_builtin; refine wpList_ap8 ?_ (.tmp 170) (.tmp 173) ?_ w.heap.size u9 dst ?_ HI2.out.own w2.heap.size (some ⟨gbuf, 0, none⟩) ln 5 l ?_ HSL.out ?_ HI2.out.below.size ?_; rfl; rfl; rfl; rfl; (have := HLD.out; have := hn.out; omega); intro v3 w3 hown3 hg3 hat3; have HI3 := Lib.hid (HI2.out.app hown3 hg3 hat3); have HI3a := Lib.hid (HI3.out.alloc (.cells #[.int .u8 0] 5)); clear hown3 hg3 hat3)
        | (at_builtin; refine wpList_ap8 ?_ (.tmp 175) (.tmp 176) ?_ w.heap.size v3 (dst ++ l) ?_ HI3a.out.own (w3.heap.size + 1) (some ⟨w3.heap.size, 0, none⟩) 1 1 [0] ?_ (sl_new w3 0 0 rfl) ?_ HI3a.out.below.size ?_; rfl; rfl; rfl; rfl; (have := HLD2.out; have := hn.out; simp only [List.length_cons, List.length_nil]; omega); intro v4 w4 hown4 hg4 hat4; have HI4 := Lib.hid (HI3a.out.app hown4 hg4 hat4); obtain ⟨A4, n4, c4, rfl, hs4⟩ := hown4.sl; have hsym := HI4.out.sym; have k1 : w4.cell? ⟨gsym, 0, none⟩ = some (.int .i64 0) := cell_of_row w4 _ 0 _ _ _ hsym; have k2 : w4.cell? ⟨gsym, 1, none⟩ = some (.slice none 0 0) := cell_of_row w4 _ 1 _ _ _ hsym; have k3 := (free_row hsym 0); have k4 := (free_row hsym 1); clear hown4 hg4 hat4 hs4 hsym))
      go_ret
      refine ⟨gsym, .slice A4 n4 c4, rfl, ?_, ?_, ?_⟩
      · exact World.cell?_setCell_same _ _ _ ((World.cell?_setCell_other w4 ⟨gsym, 0, none⟩ ⟨gsym, 1, none⟩ _ (by simp)).trans k2)
      · rw [← HDN.out]; exact (HI4.out.own.far (a := ⟨gsym, 0, none⟩) HI4.out.n2 _).far (a := ⟨gsym, 1, none⟩) HI4.out.n2 _
      · exact (HI4.out.below.setCell (p := ⟨gsym, 0, none⟩) HI4.out.b2 _).setCell (p := ⟨gsym, 1, none⟩) HI4.out.b2 _
end Go.Proofs.Ytmadidaiaggheaa
