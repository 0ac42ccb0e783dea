/- The contract of the reference's PiecesOf. -/
import Derived.Test.YtmadidaiaggheaaPieces
namespace Go.Proofs.Ytmadidaiaggheaa
open Go.RowKit
set_option linter.unusedVariables false

theorem piecesK_empty {pcs : List Int} {size : Int} {before : List Int} {m : Int} {k : Nat} (e : pAt pcs size (k + 1) = pAt pcs size k) : piecesK pcs size before m (k + 1) = piecesK pcs size before m k := by
  simp only [piecesK]
  rw [e, Int.sub_self, Int.zero_ediv, addP_zero]
def GivesP (w : World) (ps : List (Int × Int)) (e : Ending) (w' : World) : Prop := ∃ v, e = .returned v ∧ OwnP w' w.heap.size v ps ∧ Below w.heap.size w w'
def PoRel (w : World) (n : Nat) (pcs : List Int) (size : Int) (before : List Int) (m : Int) (vo vi : Value) (wr : World) : Prop :=
  ∃ k : Nat, vi = .int .i64 k ∧ k ≤ n ∧ OwnP wr w.heap.size vo (piecesK pcs size before m k) ∧ Below w.heap.size w wr

set_option maxHeartbeats 4000000 in
theorem pieces_any (A A1 : Option Addr) (n c c1 : Nat) (pcs before : List Int) (size m : Int) (w : World) (hs : Hid (SlN w w.heap.size .i64 A n c pcs)) (h1 : Hid (SlN w w.heap.size .i32 A1 n c1 before)) (HC : Hid (Code pcs size before m)) (hn : n ≤ 2147483647) :
    Calls Try.prog 15 #[.slice A n c, .int .i64 size, .slice A1 n c1, .int .i64 m] w (GivesP w (piecesOf pcs size before m)) := by
  have HNp : Hid (pcs.length = n) := Lib.hid hs.out.len
  have hn1 : 1 ≤ n := by have := HC.out.n1; have := HNp.out; omega
  obtain ⟨b, o, rfl, hb, hcell⟩ := hs.out.at_ hn1
  obtain ⟨bA, oA, rfl, hbA, hcA⟩ := h1.out.at_ hn1
  have HP : Hid (∀ i, i < n → w.cell? ⟨b, o + i, none⟩ = some (.int .i64 (pAt pcs size i))) := Lib.hid fun i hi => by unfold pAt; rw [List.getElem?_eq_getElem (by have := HNp.out; omega)]; exact hcell i _
  have HA : Hid (∀ i, i < n → w.cell? ⟨bA, oA + i, none⟩ = some (.int .i32 (vAt before i))) := Lib.hid fun i hi => by unfold vAt; rw [List.getElem?_eq_getElem (by have := h1.out.len; omega)]; exact hcA i _
  have hm1 := HC.out.m1
  have hm2 := HC.out.m16
  have hm0 : (m == 0) = false := by simp; omega
  clear hcell hcA
  go_enter Try.func15, Try.ntmps15
  go_wp2
  go_loopw [9, 17] (fun vo vi wr => PoRel w n pcs size before m vo vi wr) (fun _ vi _ => n - (intOf vi).toNat)
  case atStart => exact ⟨0, rfl, Nat.zero_le _, OwnP.nil _ _, Below.refl _ _⟩
  case round =>
    obtain ⟨k, rfl, hk, hown, hb'⟩ := hrel
    have HO := Lib.hid hown
    have HB := Lib.hid hb'
    have hbs := hb'.size
    clear hown hb'
    by_cases hlt : k < n
    · have p1 := (HB.out.cell (p := ⟨b, o + k, none⟩) hb).trans (HP.out k hlt)
      have p2 := (HB.out.cell (p := ⟨bA, oA + k, none⟩) hbA).trans (HA.out k hlt)
      obtain ⟨pk, hpk⟩ : ∃ pk, pAt pcs size k = pk := ⟨_, rfl⟩
      obtain ⟨v, hv⟩ : ∃ v, vAt before k = v := ⟨_, rfl⟩
      rw [hpk] at p1
      rw [hv] at p2
      have HPK := Lib.hid hpk
      have HV := Lib.hid hv
      have j0 : (0 : Int) ≤ (k : Int) := by omega
      have j1 : (k : Int) < (n : Int) := by omega
      have jz : bA < wr.heap.size := by omega
      clear hpk hv
      by_cases hk1 : k + 1 < n
      · have p3 := (HB.out.cell (p := ⟨b, o + (k + 1), none⟩) hb).trans (HP.out (k + 1) hk1)
        obtain ⟨en, hen⟩ : ∃ en, pAt pcs size (k + 1) = en := ⟨_, rfl⟩
        rw [hen] at p3
        have HEN := Lib.hid hen
        have j2 : (k : Int) + 1 < (n : Int) := by omega
        clear hen
        by_cases heq : en = pk
        · have e1 : (en == pk) = true := by simpa using heq
          have HEq := Lib.hid (show pAt pcs size (k + 1) = pAt pcs size k by rw [HEN.out, HPK.out]; exact heq)
          clear heq
          go_wp2
          go_roundw
          case rel =>
            refine ⟨k + 1, by go_num, by omega, ?_, HB.out⟩
            have h := HO.out
            rw [← piecesK_empty HEq.out] at h
            exact h
          case measure => simp [intOf]; omega
        · have e1 : (en == pk) = false := by simpa using heq
          have hmono := HC.out.mono k (by rw [HNp.out]; exact hlt)
          rw [HEN.out, HPK.out] at hmono
          have hen1 : en < 2147483648 := by
            have h := HC.out.le_size (i := k + 1) (by rw [HNp.out]; exact hlt)
            have := HC.out.s31
            rw [HEN.out] at h
            omega
          have hpk0 := HC.out.nonneg (i := k) (by rw [HNp.out]; omega)
          rw [HPK.out] at hpk0
          obtain ⟨L, hL⟩ : ∃ L, (en - pk) / m = L := ⟨_, rfl⟩
          have hL0 : 0 ≤ L := by rw [← hL]; exact Int.ediv_nonneg (by omega) (by omega)
          have hL1 : L ≤ en - pk := by rw [← hL]; exact Int.ediv_le_self _ (by omega)
          have hLn : L ≠ 0 := by
            have h := HC.out.long (i := k) (by rw [HNp.out]; exact hlt)
            rw [HEN.out, HPK.out, hL] at h
            intro h0
            rw [h0] at h
            omega
          have hadd : piecesK pcs size before m (k + 1) = addP (piecesK pcs size before m k) v L := by
            show addP _ _ _ = _
            rw [HV.out, HEN.out, HPK.out, hL]
          have HL := Lib.hid hL
          have HLn := Lib.hid hLn
          have HAdd := Lib.hid hadd
          have hL2 : L < 2147483648 := by omega
          have hwL : IntKind.u32.wrap L = L := by rw [IntKind.wrap_u32]; omega
          clear heq hmono hLn hadd
          rcases snoc_cases (piecesK pcs size before m k) with hnil | ⟨ps, x, l, hps⟩
          · have h0 := HO.out
            rw [hnil] at h0
            obtain ⟨A9, n9, c9, rfl, h9⟩ := h0.slp (by simp)
            have hn9 : n9 = 0 := h9.len.symm
            subst hn9
            have HO0 := Lib.hid h0
            have HNil := Lib.hid hnil
            clear h0 h9 hnil
            go_wp2_with fail
            go_quiet (fail)
            go_wp2_with (at_builtin; refine wpList_apP rfl (.tmp 68) (.tmp 75) rfl w.heap.size _ [] rfl ((HO0.out.drewN _).alloc _) wr.heap.size (v, L) rfl (by exact cell_of_row _ _ 0 _ _ (0, 0) (heap_alloc_new (wr.drewN _) _)) (by exact cell_of_row _ _ 1 _ _ (0, 0) (heap_alloc_new (wr.drewN _) _)) (by simp) (by simp; omega) ?_; intro v3 w3 hown3 hg3 hat3; have HO3 := Lib.hid hown3; have HB3 := Lib.hid ((below_drewN HB.out _).alloc hbs _ |>.grown hg3 (by simp; omega) (fun k hk => (HO0.out.lt k hk).1)); clear hown3 hg3 hat3)
            go_roundw
            case rel =>
              refine ⟨k + 1, by go_num, by omega, ?_, HB3.out⟩
              rw [HAdd.out, HNil.out, addP_nil HLn.out]
              exact HO3.out
            case measure => simp [intOf]; omega
          · have h0 := HO.out
            rw [hps] at h0
            have hlenp : ps.length + 1 ≤ k := by
              have h := (piecesK_good HC.out k (by rw [HNp.out]; exact hk)).2.2.1
              rw [hps] at h
              simpa using h
            obtain ⟨g, cap, rfl, hcap, hcm, hgb, hgl, d1, d2, d3, hset⟩ := h0.last
            have HO0 := Lib.hid h0
            have HSet := Lib.hid hset
            have HPs := Lib.hid hps
            have hbl : w.heap.size ≤ g := hgb
            have i0 : (0 : Int) ≤ (ps.length : Int) := by omega
            have i1 : (ps.length : Int) < ((ps.length + 1 : Nat) : Int) := by omega
            have i2 : ((ps.length + 1 : Nat) : Int) - 1 = (ps.length : Int) := by omega
            clear h0 hset hps hgb
            by_cases hxv : x = v
            · have hsum : l + L < 4294967296 ∧ 0 ≤ l := by
                have h := piecesK_ok HC.out (k + 1) (by rw [HNp.out]; exact hlt)
                rw [HAdd.out, HPs.out, hxv, addP_same HLn.out] at h
                have h3 := (h (v, l + L) (List.mem_append_right _ (List.mem_cons.2 (.inl rfl)))).2
                have h4 := piecesK_ok HC.out k (by rw [HNp.out]; exact hk)
                rw [HPs.out] at h4
                have h5 := (h4 (x, l) (List.mem_append_right _ (List.mem_cons.2 (.inl rfl)))).2
                exact ⟨h3.2, h5.1⟩
              obtain ⟨hs1, hs0⟩ := hsum
              have e2 : (x == v) = true := by simpa using hxv
              have HXV := Lib.hid hxv
              clear hxv
              generalize ps.length = pl at *
              go_wp2_with fail
              go_quiet (fail)
              go_wp2
              go_roundw
              case rel =>
                refine ⟨k + 1, by go_num, by omega, ?_, (below_drewN HB.out _).setCell (p := ⟨g, pl * 2 + 1, none⟩) hbl _⟩
                rw [HAdd.out, HPs.out, HXV.out, addP_same HLn.out]
                have h := HSet.out (l + L)
                rw [HXV.out] at h
                exact h
              case measure => simp [intOf]; omega
            · have e2 : (x == v) = false := by simpa using hxv
              have HXV := Lib.hid hxv
              have HLP : Hid ((ps ++ [(x, l)]).length + 1 ≤ 4294967296) := Lib.hid (by simp; omega)
              clear hxv
              generalize ps.length = pl at *
              go_wp2_with fail
              go_quiet (fail)
              go_wp2_with (at_builtin; refine wpList_apP rfl (.tmp 68) (.tmp 75) rfl w.heap.size _ (ps ++ [(x, l)]) rfl ((HO0.out.drewN _).alloc _) wr.heap.size (v, L) rfl (by exact cell_of_row _ _ 0 _ _ (0, 0) (heap_alloc_new (wr.drewN _) _)) (by exact cell_of_row _ _ 1 _ _ (0, 0) (heap_alloc_new (wr.drewN _) _)) HLP.out (by simp; omega) ?_; intro v3 w3 hown3 hg3 hat3; have HO3 := Lib.hid hown3; have HB3 := Lib.hid ((below_drewN HB.out _).alloc hbs _ |>.grown hg3 (by simp; omega) (fun k hk => (HO0.out.lt k hk).1)); clear hown3 hg3 hat3)
              go_roundw
              case rel =>
                refine ⟨k + 1, by go_num, by omega, ?_, HB3.out⟩
                rw [HAdd.out, HPs.out, addP_new HLn.out HXV.out]
                exact HO3.out
              case measure => simp [intOf]; omega
      · have HEN : Hid (pAt pcs size (k + 1) = size) := Lib.hid (by rw [show k + 1 = pcs.length by rw [HNp.out]; omega]; exact pAt_end pcs size)
        have j2 : ¬ (k : Int) + 1 < (n : Int) := by omega
        by_cases heq : size = pk
        · have e1 : (size == pk) = true := by simpa using heq
          have HEq := Lib.hid (show pAt pcs size (k + 1) = pAt pcs size k by rw [HEN.out, HPK.out]; exact heq)
          clear heq
          go_wp2
          go_roundw
          case rel =>
            refine ⟨k + 1, by go_num, by omega, ?_, HB.out⟩
            have h := HO.out
            rw [← piecesK_empty HEq.out] at h
            exact h
          case measure => simp [intOf]; omega
        · have e1 : (size == pk) = false := by simpa using heq
          have hmono := HC.out.mono k (by rw [HNp.out]; exact hlt)
          rw [HEN.out, HPK.out] at hmono
          have hen1 : size < 2147483648 := by
            have h := HC.out.le_size (i := k + 1) (by rw [HNp.out]; exact hlt)
            have := HC.out.s31
            rw [HEN.out] at h
            omega
          have hpk0 := HC.out.nonneg (i := k) (by rw [HNp.out]; omega)
          rw [HPK.out] at hpk0
          obtain ⟨L, hL⟩ : ∃ L, (size - pk) / m = L := ⟨_, rfl⟩
          have hL0 : 0 ≤ L := by rw [← hL]; exact Int.ediv_nonneg (by omega) (by omega)
          have hL1 : L ≤ size - pk := by rw [← hL]; exact Int.ediv_le_self _ (by omega)
          have hLn : L ≠ 0 := by
            have h := HC.out.long (i := k) (by rw [HNp.out]; exact hlt)
            rw [HEN.out, HPK.out, hL] at h
            intro h0
            rw [h0] at h
            omega
          have hadd : piecesK pcs size before m (k + 1) = addP (piecesK pcs size before m k) v L := by
            show addP _ _ _ = _
            rw [HV.out, HEN.out, HPK.out, hL]
          have HL := Lib.hid hL
          have HLn := Lib.hid hLn
          have HAdd := Lib.hid hadd
          have hL2 : L < 2147483648 := by omega
          have hwL : IntKind.u32.wrap L = L := by rw [IntKind.wrap_u32]; omega
          clear heq hmono hLn hadd
          rcases snoc_cases (piecesK pcs size before m k) with hnil | ⟨ps, x, l, hps⟩
          · have h0 := HO.out
            rw [hnil] at h0
            obtain ⟨A9, n9, c9, rfl, h9⟩ := h0.slp (by simp)
            have hn9 : n9 = 0 := h9.len.symm
            subst hn9
            have HO0 := Lib.hid h0
            have HNil := Lib.hid hnil
            clear h0 h9 hnil
            go_wp2_with fail
            go_quiet (fail)
            go_wp2_with (at_builtin; refine wpList_apP rfl (.tmp 68) (.tmp 75) rfl w.heap.size _ [] rfl ((HO0.out.drewN _).alloc _) wr.heap.size (v, L) rfl (by exact cell_of_row _ _ 0 _ _ (0, 0) (heap_alloc_new (wr.drewN _) _)) (by exact cell_of_row _ _ 1 _ _ (0, 0) (heap_alloc_new (wr.drewN _) _)) (by simp) (by simp; omega) ?_; intro v3 w3 hown3 hg3 hat3; have HO3 := Lib.hid hown3; have HB3 := Lib.hid ((below_drewN HB.out _).alloc hbs _ |>.grown hg3 (by simp; omega) (fun k hk => (HO0.out.lt k hk).1)); clear hown3 hg3 hat3)
            go_roundw
            case rel =>
              refine ⟨k + 1, by go_num, by omega, ?_, HB3.out⟩
              rw [HAdd.out, HNil.out, addP_nil HLn.out]
              exact HO3.out
            case measure => simp [intOf]; omega
          · have h0 := HO.out
            rw [hps] at h0
            have hlenp : ps.length + 1 ≤ k := by
              have h := (piecesK_good HC.out k (by rw [HNp.out]; exact hk)).2.2.1
              rw [hps] at h
              simpa using h
            obtain ⟨g, cap, rfl, hcap, hcm, hgb, hgl, d1, d2, d3, hset⟩ := h0.last
            have HO0 := Lib.hid h0
            have HSet := Lib.hid hset
            have HPs := Lib.hid hps
            have hbl : w.heap.size ≤ g := hgb
            have i0 : (0 : Int) ≤ (ps.length : Int) := by omega
            have i1 : (ps.length : Int) < ((ps.length + 1 : Nat) : Int) := by omega
            have i2 : ((ps.length + 1 : Nat) : Int) - 1 = (ps.length : Int) := by omega
            clear h0 hset hps hgb
            by_cases hxv : x = v
            · have hsum : l + L < 4294967296 ∧ 0 ≤ l := by
                have h := piecesK_ok HC.out (k + 1) (by rw [HNp.out]; exact hlt)
                rw [HAdd.out, HPs.out, hxv, addP_same HLn.out] at h
                have h3 := (h (v, l + L) (List.mem_append_right _ (List.mem_cons.2 (.inl rfl)))).2
                have h4 := piecesK_ok HC.out k (by rw [HNp.out]; exact hk)
                rw [HPs.out] at h4
                have h5 := (h4 (x, l) (List.mem_append_right _ (List.mem_cons.2 (.inl rfl)))).2
                exact ⟨h3.2, h5.1⟩
              obtain ⟨hs1, hs0⟩ := hsum
              have e2 : (x == v) = true := by simpa using hxv
              have HXV := Lib.hid hxv
              clear hxv
              generalize ps.length = pl at *
              go_wp2_with fail
              go_quiet (fail)
              go_wp2
              go_roundw
              case rel =>
                refine ⟨k + 1, by go_num, by omega, ?_, (below_drewN HB.out _).setCell (p := ⟨g, pl * 2 + 1, none⟩) hbl _⟩
                rw [HAdd.out, HPs.out, HXV.out, addP_same HLn.out]
                have h := HSet.out (l + L)
                rw [HXV.out] at h
                exact h
              case measure => simp [intOf]; omega
            · have e2 : (x == v) = false := by simpa using hxv
              have HXV := Lib.hid hxv
              have HLP : Hid ((ps ++ [(x, l)]).length + 1 ≤ 4294967296) := Lib.hid (by simp; omega)
              clear hxv
              generalize ps.length = pl at *
              go_wp2_with fail
              go_quiet (fail)
              go_wp2_with (at_builtin; refine wpList_apP rfl (.tmp 68) (.tmp 75) rfl w.heap.size _ (ps ++ [(x, l)]) rfl ((HO0.out.drewN _).alloc _) wr.heap.size (v, L) rfl (by exact cell_of_row _ _ 0 _ _ (0, 0) (heap_alloc_new (wr.drewN _) _)) (by exact cell_of_row _ _ 1 _ _ (0, 0) (heap_alloc_new (wr.drewN _) _)) HLP.out (by simp; omega) ?_; intro v3 w3 hown3 hg3 hat3; have HO3 := Lib.hid hown3; have HB3 := Lib.hid ((below_drewN HB.out _).alloc hbs _ |>.grown hg3 (by simp; omega) (fun k hk => (HO0.out.lt k hk).1)); clear hown3 hg3 hat3)
              go_roundw
              case rel =>
                refine ⟨k + 1, by go_num, by omega, ?_, HB3.out⟩
                rw [HAdd.out, HPs.out, addP_new HLn.out HXV.out]
                exact HO3.out
              case measure => simp [intOf]; omega
    · obtain rfl : k = n := by omega
      go_wp2
      go_ret
      refine ⟨_, rfl, ?_, HB.out⟩
      have h := HO.out
      rw [← HNp.out] at h
      exact h
end Go.Proofs.Ytmadidaiaggheaa
