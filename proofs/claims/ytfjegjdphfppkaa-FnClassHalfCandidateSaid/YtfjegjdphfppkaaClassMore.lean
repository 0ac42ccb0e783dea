/- The walks of the laws FnClassMove and FnClassHalfCandidate. -/
import Derived.Test.YtfjegjdphfppkaaClassLaws
namespace Go.Proofs.Ytfjegjdphfppkaa
open Go.RowKit
set_option linter.unusedVariables false

theorem class_move (v : Int) (b : Bool) (m1 m2 : Int) (h0 : v ≠ 0) (ha : addB v = false) (hm : 0 ≤ m1 ∨ 0 ≤ m2) : classZ v b m1 m2 = if b = true then 22 else 23 := by
  unfold classZ
  rw [if_neg h0, if_neg (by simp [ha])]
  by_cases g : 0 ≤ m1
  · rw [if_pos g]
  · rw [if_neg g, if_pos (hm.resolve_left g)]

theorem piece_mov (p k : Nat) (hp : p < 65536) (hk : k = 2 ∨ k = 3) : p * 2 ^ (16 * k) < 18446744073709551616 ∧ 0 ≤ movN (p * 2 ^ (16 * k)) := by
  have hl : p * 2 ^ (16 * k) < 18446744073709551616 := by
    rcases hk with rfl | rfl <;> simp only [Nat.reduceMul, Nat.reducePow] <;> omega
  refine ⟨hl, (hit_lit _ hl).2 ?_⟩
  rcases hk with rfl | rfl <;> simp only [Nat.reduceMul, Nat.reducePow] <;> omega

/-- What the law needs of the number that it makes: its class. -/
theorem piece_class (p k : Nat) (hp : p < 65536) (h0 : p ≠ 0) (hk : k = 2 ∨ k = 3) (inv : Bool) (v : Int) (hv : v = if inv then -1 - wrap64 ((p * 2 ^ (16 * k) : Nat) : Int) else wrap64 ((p * 2 ^ (16 * k) : Nat) : Int)) (u n : Nat) (N : Num v u n) :
    classZ v (Pl.isB u) (movN u) (movN n) = if Pl.isB u = true then 22 else 23 := by
  obtain ⟨hl, hm⟩ := piece_mov p k hp hk
  have hw := N.hv
  have hn := N.hn
  have hul := N.hu
  have hnl := N.hnl
  rw [IntKind.wrap_u64] at hw hn
  generalize hq : p * 2 ^ (16 * k) = q at *
  have hq2 : (4294967296 ≤ q ∧ q ≤ 18446462598732840960) ∧ q % 4294967296 = 0 := by
    rcases hk with rfl | rfl <;> simp only [Nat.reduceMul, Nat.reducePow] at hq <;> omega
  cases inv
  · simp only [Bool.false_eq_true, if_false] at hv
    unfold wrap64 at hv
    have hu : u = q := by omega
    exact class_move v _ _ _ (by omega) (by simp [addB]; omega) (.inl (by rw [hu]; exact hm))
  · simp only [if_true] at hv
    unfold wrap64 at hv
    have hu : n = q := by omega
    exact class_move v _ _ _ (by omega) (by simp [addB]; omega) (.inr (by rw [hu]; exact hm))

theorem fnClassMove_main (p k : Nat) (hp : p < 65536) (h0 : p ≠ 0) (hk2 : 2 ≤ k) (hk3 : k ≤ 3) (inv : Bool) (w : World) :
    Calls Try.prog 10 #[.int .u16 p, .int .i64 k, .bool inv] w fun e w' => e = .returned (.bool true) ∧ Grown w w' := by
  have hkk : k = 2 ∨ k = 3 := by omega
  have hl := (piece_mov p k hp hkk).1
  obtain ⟨v, hv⟩ : ∃ v : Int, v = if inv then -1 - wrap64 ((p * 2 ^ (16 * k) : Nat) : Int) else wrap64 ((p * 2 ^ (16 * k) : Nat) : Int) := ⟨_, rfl⟩
  have hwf : (Lit.int .i64 v).wf = true := by
    apply WalkArith.wf_i64
    rw [hv]
    unfold wrap64
    cases inv
    · simp only [Bool.false_eq_true, if_false]; omega
    · simp only [if_true]; omega
  obtain ⟨u, n, N⟩ := num_of v hwf
  have hc := piece_class p k hp h0 hkk inv v hv u n N
  have HN := Lib.hid N
  have hvu := N.hv
  have e0 : ((p : Int) == 0) = false := by simp; omega
  have hs : IntKind.u64.wrap ((p : Int) * 2 ^ (16 * k)) = ((p * 2 ^ (16 * k) : Nat) : Int) := shl_form p (16 * k) hl
  obtain ⟨q, hq⟩ : ∃ q, q = p * 2 ^ (16 * k) := ⟨_, rfl⟩
  rw [← hq] at hs hv hl
  have hsg : IntKind.i64.signed = true := rfl
  have hnot : bits .xor .i64 (-1) (wrap64 (q : Int)) = -1 - wrap64 (q : Int) := not_i64 _ (by unfold wrap64; omega) (by unfold wrap64; omega)
  clear hq N hwf hkk hl
  cases inv
  · simp only [Bool.false_eq_true, if_false] at hv
    rw [hv] at hvu HN hc
    clear hv
    cases hb : Pl.isB u
    · have HC := Lib.hid (show classZ (wrap64 (q : Int)) (Pl.isB u) (movN u) (movN n) = 23 from hc.trans (if_neg (by simp [hb])))
      have HB := Lib.hid hb
      clear hb hc hnot hsg
      go_enter Try.func10, Try.ntmps10
      go_wp2_with fail
      refine (spec_is _ u rfl HN.out.hu _).mono ?_
      rw [HB.out]
      rintro e w' ⟨rfl, rfl⟩
      go_wp2_with fail
      refine (class_is _ u n 23 HN HC.out _).mono ?_
      rintro e w' ⟨rfl, rfl⟩
      go_wp2
      go_ret
      exact ⟨rfl, Grown.refl _⟩
    · have HC := Lib.hid (show classZ (wrap64 (q : Int)) (Pl.isB u) (movN u) (movN n) = 22 from hc.trans (if_pos hb))
      have HB := Lib.hid hb
      clear hb hc hnot hsg
      go_enter Try.func10, Try.ntmps10
      go_wp2_with fail
      refine (spec_is _ u rfl HN.out.hu _).mono ?_
      rw [HB.out]
      rintro e w' ⟨rfl, rfl⟩
      go_wp2_with fail
      refine (class_is _ u n 22 HN HC.out _).mono ?_
      rintro e w' ⟨rfl, rfl⟩
      go_wp2
      go_ret
      exact ⟨rfl, Grown.refl _⟩
  · simp only [if_true] at hv
    rw [hv] at hvu HN hc
    clear hv
    cases hb : Pl.isB u
    · have HC := Lib.hid (show classZ (-1 - wrap64 (q : Int)) (Pl.isB u) (movN u) (movN n) = 23 from hc.trans (if_neg (by simp [hb])))
      have HB := Lib.hid hb
      clear hb hc
      go_enter Try.func10, Try.ntmps10
      go_wp2_with fail
      refine (spec_is _ u rfl HN.out.hu _).mono ?_
      rw [HB.out]
      rintro e w' ⟨rfl, rfl⟩
      go_wp2_with fail
      refine (class_is _ u n 23 HN HC.out _).mono ?_
      rintro e w' ⟨rfl, rfl⟩
      go_wp2
      go_ret
      exact ⟨rfl, Grown.refl _⟩
    · have HC := Lib.hid (show classZ (-1 - wrap64 (q : Int)) (Pl.isB u) (movN u) (movN n) = 22 from hc.trans (if_pos hb))
      have HB := Lib.hid hb
      clear hb hc
      go_enter Try.func10, Try.ntmps10
      go_wp2_with fail
      refine (spec_is _ u rfl HN.out.hu _).mono ?_
      rw [HB.out]
      rintro e w' ⟨rfl, rfl⟩
      go_wp2_with fail
      refine (class_is _ u n 22 HN HC.out _).mono ?_
      rintro e w' ⟨rfl, rfl⟩
      go_wp2
      go_ret
      exact ⟨rfl, Grown.refl _⟩

theorem fnClassMove_walk (a0 : Int) (a1 : Int) (a2 : Bool) (w0 : (Lit.int .u16 a0).wf = true) (w1 : (Lit.int .i64 a1).wf = true) (w : World) :
    Calls Try.prog 10 #[.int .u16 a0, .int .i64 a1, .bool a2] w fun e w' => e = .returned (.bool true) ∧ Grown w w' := by
  obtain ⟨b0, b1⟩ := bounds_u16 w0
  obtain ⟨b2, b3⟩ := bounds_i64 w1
  clear w0 w1
  obtain ⟨p, rfl⟩ := Int.eq_ofNat_of_zero_le b0
  by_cases h0 : p = 0
  · subst h0
    go_enter Try.func10, Try.ntmps10
    go_wp2_with fail
    go_ret
    exact ⟨rfl, Grown.refl _⟩
  have e0 : ((p : Int) == 0) = false := by simp; omega
  by_cases c1 : a1 < 2
  · go_enter Try.func10, Try.ntmps10
    go_wp2_with fail
    go_ret
    exact ⟨rfl, Grown.refl _⟩
  by_cases c2 : 3 < a1
  · go_enter Try.func10, Try.ntmps10
    go_wp2_with fail
    go_ret
    exact ⟨rfl, Grown.refl _⟩
  obtain ⟨k, rfl⟩ := Int.eq_ofNat_of_zero_le (show 0 ≤ a1 by omega)
  exact fnClassMove_main p k (by omega) h0 (by omega) (by omega) a2 w
theorem class_word (v : Int) (b : Bool) (m1 m2 : Int) (hw : wordB v = true) : classZ v b m1 m2 ≠ 29 := by
  unfold classZ
  rw [if_pos hw]
  repeat' split
  all_goals decide
def halfZ (v : Int) (b m : Bool) : Int := if narrowZ v b m = 0 then 26 else narrowZ v b m
theorem half_class (v : Int) (b m : Bool) (m1 m2 : Int) (hm : m = true ↔ 0 ≤ m1 ∨ 0 ≤ m2) (hw : wordB v = true) : classZ v b m1 m2 = halfZ v b m := by
  unfold halfZ
  rcases narrow_class v b m m1 m2 hm with ⟨h1, h2⟩ | ⟨h1, ⟨h2, _⟩ | h2⟩
  · rw [if_neg h1, h2]
  · rw [if_pos h1, h2]
  · exact absurd h2 (class_word v b m1 m2 hw)
theorem half_eq {v c k : Int} {b m : Bool} (hc : c = halfZ v b m) (hk : k = narrowZ v b m) (h0 : k ≠ 0) : (c == k) = true := by
  rw [hc, hk, beq_iff_eq]; unfold halfZ; rw [if_neg (by rw [← hk]; exact h0)]
theorem half_last {v c : Int} {b m : Bool} (hc : c = halfZ v b m) (hk : 0 = narrowZ v b m) : (c == 26) = true := by
  rw [hc, beq_iff_eq]; unfold halfZ; rw [if_pos hk.symm]

theorem con32_0 (v : Int) (x y m : Nat) (c1 c2 : Int) (hx0 : 0 ≤ v) (hx : v < 4294967296) (hux : Hid (IntKind.u64.wrap v = (x : Int))) (hxl : Hid (x < 18446744073709551616)) (hy : Hid (bits .or .u64 (v * 4294967296) v = (y : Int))) (hyl : Hid (y < 18446744073709551616))
    (hum : Hid (IntKind.u64.wrap ((-1 - v) % 4294967296) = (m : Int))) (hmm : Hid (m < 18446744073709551616)) (M1 : Hid (movN x = c1)) (M2 : Hid (movN m = c2)) (h0 : (v == 0) = false) (ha : Hid (addB v = true)) (hl : v ≤ 4095) (hb : Hid (Pl.isB y = true)) (w : World) :
    Calls Try.prog 33 #[.int .i64 v, .int .i64 32] w fun e w' => e = .returned (.int .i64 17) ∧ w = w' := by
  have hsg : IntKind.i64.signed = true := rfl
  have hnot := not_i64 v (by omega) (by omega)
  go_enter Try.func33, Try.ntmps33
  go_wp2_with fail
  refine (addcon_any _ (by omega) _).mono ?_
  rw [ha.out]
  rintro e w' ⟨rfl, rfl⟩
  go_wp2_with fail
  refine (isbitcon_any _ y hy.out hyl.out _).mono ?_
  rw [hb.out]
  rintro e w' ⟨rfl, rfl⟩
  go_wp2_with fail
  go_ret
  exact ⟨rfl, rfl⟩
theorem con32_1 (v : Int) (x y m : Nat) (c1 c2 : Int) (hx0 : 0 ≤ v) (hx : v < 4294967296) (hux : Hid (IntKind.u64.wrap v = (x : Int))) (hxl : Hid (x < 18446744073709551616)) (hy : Hid (bits .or .u64 (v * 4294967296) v = (y : Int))) (hyl : Hid (y < 18446744073709551616))
    (hum : Hid (IntKind.u64.wrap ((-1 - v) % 4294967296) = (m : Int))) (hmm : Hid (m < 18446744073709551616)) (M1 : Hid (movN x = c1)) (M2 : Hid (movN m = c2)) (h0 : (v == 0) = false) (ha : Hid (addB v = true)) (hl : v ≤ 4095) (hb : Hid (Pl.isB y = false)) (w : World) :
    Calls Try.prog 33 #[.int .i64 v, .int .i64 32] w fun e w' => e = .returned (.int .i64 18) ∧ w = w' := by
  have hsg : IntKind.i64.signed = true := rfl
  have hnot := not_i64 v (by omega) (by omega)
  go_enter Try.func33, Try.ntmps33
  go_wp2_with fail
  refine (addcon_any _ (by omega) _).mono ?_
  rw [ha.out]
  rintro e w' ⟨rfl, rfl⟩
  go_wp2_with fail
  refine (isbitcon_any _ y hy.out hyl.out _).mono ?_
  rw [hb.out]
  rintro e w' ⟨rfl, rfl⟩
  go_wp2_with fail
  go_ret
  exact ⟨rfl, rfl⟩
theorem con32_2 (v : Int) (x y m : Nat) (c1 c2 : Int) (hx0 : 0 ≤ v) (hx : v < 4294967296) (hux : Hid (IntKind.u64.wrap v = (x : Int))) (hxl : Hid (x < 18446744073709551616)) (hy : Hid (bits .or .u64 (v * 4294967296) v = (y : Int))) (hyl : Hid (y < 18446744073709551616))
    (hum : Hid (IntKind.u64.wrap ((-1 - v) % 4294967296) = (m : Int))) (hmm : Hid (m < 18446744073709551616)) (M1 : Hid (movN x = c1)) (M2 : Hid (movN m = c2)) (h0 : (v == 0) = false) (ha : Hid (addB v = true)) (hl : 4095 < v) (hb : Hid (Pl.isB y = true)) (w : World) :
    Calls Try.prog 33 #[.int .i64 v, .int .i64 32] w fun e w' => e = .returned (.int .i64 19) ∧ w = w' := by
  have hsg : IntKind.i64.signed = true := rfl
  have hnot := not_i64 v (by omega) (by omega)
  go_enter Try.func33, Try.ntmps33
  go_wp2_with fail
  refine (addcon_any _ (by omega) _).mono ?_
  rw [ha.out]
  rintro e w' ⟨rfl, rfl⟩
  go_wp2_with fail
  refine (isbitcon_any _ y hy.out hyl.out _).mono ?_
  rw [hb.out]
  rintro e w' ⟨rfl, rfl⟩
  go_wp2_with fail
  go_ret
  exact ⟨rfl, rfl⟩
theorem con32_3 (v : Int) (x y m : Nat) (c1 c2 : Int) (hx0 : 0 ≤ v) (hx : v < 4294967296) (hux : Hid (IntKind.u64.wrap v = (x : Int))) (hxl : Hid (x < 18446744073709551616)) (hy : Hid (bits .or .u64 (v * 4294967296) v = (y : Int))) (hyl : Hid (y < 18446744073709551616))
    (hum : Hid (IntKind.u64.wrap ((-1 - v) % 4294967296) = (m : Int))) (hmm : Hid (m < 18446744073709551616)) (M1 : Hid (movN x = c1)) (M2 : Hid (movN m = c2)) (h0 : (v == 0) = false) (ha : Hid (addB v = true)) (hl : 4095 < v) (hb : Hid (Pl.isB y = false)) (g1 : 0 ≤ c1) (w : World) :
    Calls Try.prog 33 #[.int .i64 v, .int .i64 32] w fun e w' => e = .returned (.int .i64 20) ∧ w = w' := by
  have hsg : IntKind.i64.signed = true := rfl
  have hnot := not_i64 v (by omega) (by omega)
  go_enter Try.func33, Try.ntmps33
  go_wp2_with fail
  refine (addcon_any _ (by omega) _).mono ?_
  rw [ha.out]
  rintro e w' ⟨rfl, rfl⟩
  go_wp2_with fail
  refine (isbitcon_any _ y hy.out hyl.out _).mono ?_
  rw [hb.out]
  rintro e w' ⟨rfl, rfl⟩
  go_wp2_with fail
  refine (movcon_any _ x hux.out hxl.out _).mono ?_
  rw [M1.out]
  rintro e w' ⟨rfl, rfl⟩
  go_wp2_with fail
  go_ret
  exact ⟨rfl, rfl⟩
theorem con32_4 (v : Int) (x y m : Nat) (c1 c2 : Int) (hx0 : 0 ≤ v) (hx : v < 4294967296) (hux : Hid (IntKind.u64.wrap v = (x : Int))) (hxl : Hid (x < 18446744073709551616)) (hy : Hid (bits .or .u64 (v * 4294967296) v = (y : Int))) (hyl : Hid (y < 18446744073709551616))
    (hum : Hid (IntKind.u64.wrap ((-1 - v) % 4294967296) = (m : Int))) (hmm : Hid (m < 18446744073709551616)) (M1 : Hid (movN x = c1)) (M2 : Hid (movN m = c2)) (h0 : (v == 0) = false) (ha : Hid (addB v = true)) (hl : 4095 < v) (hb : Hid (Pl.isB y = false)) (g1 : c1 < 0) (g2 : 0 ≤ c2) (w : World) :
    Calls Try.prog 33 #[.int .i64 v, .int .i64 32] w fun e w' => e = .returned (.int .i64 20) ∧ w = w' := by
  have hsg : IntKind.i64.signed = true := rfl
  have hnot := not_i64 v (by omega) (by omega)
  go_enter Try.func33, Try.ntmps33
  go_wp2_with fail
  refine (addcon_any _ (by omega) _).mono ?_
  rw [ha.out]
  rintro e w' ⟨rfl, rfl⟩
  go_wp2_with fail
  refine (isbitcon_any _ y hy.out hyl.out _).mono ?_
  rw [hb.out]
  rintro e w' ⟨rfl, rfl⟩
  go_wp2_with fail
  refine (movcon_any _ x hux.out hxl.out _).mono ?_
  rw [M1.out]
  rintro e w' ⟨rfl, rfl⟩
  go_wp2_with fail
  refine (movcon_any _ m hum.out hmm.out _).mono ?_
  rw [M2.out]
  rintro e w' ⟨rfl, rfl⟩
  go_wp2_with fail
  go_ret
  exact ⟨rfl, rfl⟩
theorem con32_5 (v : Int) (x y m : Nat) (c1 c2 : Int) (hx0 : 0 ≤ v) (hx : v < 4294967296) (hux : Hid (IntKind.u64.wrap v = (x : Int))) (hxl : Hid (x < 18446744073709551616)) (hy : Hid (bits .or .u64 (v * 4294967296) v = (y : Int))) (hyl : Hid (y < 18446744073709551616))
    (hum : Hid (IntKind.u64.wrap ((-1 - v) % 4294967296) = (m : Int))) (hmm : Hid (m < 18446744073709551616)) (M1 : Hid (movN x = c1)) (M2 : Hid (movN m = c2)) (h0 : (v == 0) = false) (ha : Hid (addB v = true)) (hl : 4095 < v) (hb : Hid (Pl.isB y = false)) (g1 : c1 < 0) (g2 : c2 < 0) (w : World) :
    Calls Try.prog 33 #[.int .i64 v, .int .i64 32] w fun e w' => e = .returned (.int .i64 21) ∧ w = w' := by
  have hsg : IntKind.i64.signed = true := rfl
  have hnot := not_i64 v (by omega) (by omega)
  go_enter Try.func33, Try.ntmps33
  go_wp2_with fail
  refine (addcon_any _ (by omega) _).mono ?_
  rw [ha.out]
  rintro e w' ⟨rfl, rfl⟩
  go_wp2_with fail
  refine (isbitcon_any _ y hy.out hyl.out _).mono ?_
  rw [hb.out]
  rintro e w' ⟨rfl, rfl⟩
  go_wp2_with fail
  refine (movcon_any _ x hux.out hxl.out _).mono ?_
  rw [M1.out]
  rintro e w' ⟨rfl, rfl⟩
  go_wp2_with fail
  refine (movcon_any _ m hum.out hmm.out _).mono ?_
  rw [M2.out]
  rintro e w' ⟨rfl, rfl⟩
  go_wp2_with fail
  go_ret
  exact ⟨rfl, rfl⟩
theorem con32_6 (v : Int) (x y m : Nat) (c1 c2 : Int) (hx0 : 0 ≤ v) (hx : v < 4294967296) (hux : Hid (IntKind.u64.wrap v = (x : Int))) (hxl : Hid (x < 18446744073709551616)) (hy : Hid (bits .or .u64 (v * 4294967296) v = (y : Int))) (hyl : Hid (y < 18446744073709551616))
    (hum : Hid (IntKind.u64.wrap ((-1 - v) % 4294967296) = (m : Int))) (hmm : Hid (m < 18446744073709551616)) (M1 : Hid (movN x = c1)) (M2 : Hid (movN m = c2)) (h0 : (v == 0) = false) (ha : Hid (addB v = false)) (g1 : 0 ≤ c1) (hb : Hid (Pl.isB y = true)) (w : World) :
    Calls Try.prog 33 #[.int .i64 v, .int .i64 32] w fun e w' => e = .returned (.int .i64 22) ∧ w = w' := by
  have hsg : IntKind.i64.signed = true := rfl
  have hnot := not_i64 v (by omega) (by omega)
  go_enter Try.func33, Try.ntmps33
  go_wp2_with fail
  refine (addcon_any _ (by omega) _).mono ?_
  rw [ha.out]
  rintro e w' ⟨rfl, rfl⟩
  go_wp2_with fail
  refine (movcon_any _ x hux.out hxl.out _).mono ?_
  rw [M1.out]
  rintro e w' ⟨rfl, rfl⟩
  go_wp2_with fail
  refine (isbitcon_any _ y hy.out hyl.out _).mono ?_
  rw [hb.out]
  rintro e w' ⟨rfl, rfl⟩
  go_wp2_with fail
  go_ret
  exact ⟨rfl, rfl⟩
theorem con32_7 (v : Int) (x y m : Nat) (c1 c2 : Int) (hx0 : 0 ≤ v) (hx : v < 4294967296) (hux : Hid (IntKind.u64.wrap v = (x : Int))) (hxl : Hid (x < 18446744073709551616)) (hy : Hid (bits .or .u64 (v * 4294967296) v = (y : Int))) (hyl : Hid (y < 18446744073709551616))
    (hum : Hid (IntKind.u64.wrap ((-1 - v) % 4294967296) = (m : Int))) (hmm : Hid (m < 18446744073709551616)) (M1 : Hid (movN x = c1)) (M2 : Hid (movN m = c2)) (h0 : (v == 0) = false) (ha : Hid (addB v = false)) (g1 : 0 ≤ c1) (hb : Hid (Pl.isB y = false)) (w : World) :
    Calls Try.prog 33 #[.int .i64 v, .int .i64 32] w fun e w' => e = .returned (.int .i64 23) ∧ w = w' := by
  have hsg : IntKind.i64.signed = true := rfl
  have hnot := not_i64 v (by omega) (by omega)
  go_enter Try.func33, Try.ntmps33
  go_wp2_with fail
  refine (addcon_any _ (by omega) _).mono ?_
  rw [ha.out]
  rintro e w' ⟨rfl, rfl⟩
  go_wp2_with fail
  refine (movcon_any _ x hux.out hxl.out _).mono ?_
  rw [M1.out]
  rintro e w' ⟨rfl, rfl⟩
  go_wp2_with fail
  refine (isbitcon_any _ y hy.out hyl.out _).mono ?_
  rw [hb.out]
  rintro e w' ⟨rfl, rfl⟩
  go_wp2_with fail
  go_ret
  exact ⟨rfl, rfl⟩
theorem con32_8 (v : Int) (x y m : Nat) (c1 c2 : Int) (hx0 : 0 ≤ v) (hx : v < 4294967296) (hux : Hid (IntKind.u64.wrap v = (x : Int))) (hxl : Hid (x < 18446744073709551616)) (hy : Hid (bits .or .u64 (v * 4294967296) v = (y : Int))) (hyl : Hid (y < 18446744073709551616))
    (hum : Hid (IntKind.u64.wrap ((-1 - v) % 4294967296) = (m : Int))) (hmm : Hid (m < 18446744073709551616)) (M1 : Hid (movN x = c1)) (M2 : Hid (movN m = c2)) (h0 : (v == 0) = false) (ha : Hid (addB v = false)) (g1 : c1 < 0) (g2 : 0 ≤ c2) (hb : Hid (Pl.isB y = true)) (w : World) :
    Calls Try.prog 33 #[.int .i64 v, .int .i64 32] w fun e w' => e = .returned (.int .i64 22) ∧ w = w' := by
  have hsg : IntKind.i64.signed = true := rfl
  have hnot := not_i64 v (by omega) (by omega)
  go_enter Try.func33, Try.ntmps33
  go_wp2_with fail
  refine (addcon_any _ (by omega) _).mono ?_
  rw [ha.out]
  rintro e w' ⟨rfl, rfl⟩
  go_wp2_with fail
  refine (movcon_any _ x hux.out hxl.out _).mono ?_
  rw [M1.out]
  rintro e w' ⟨rfl, rfl⟩
  go_wp2_with fail
  refine (movcon_any _ m hum.out hmm.out _).mono ?_
  rw [M2.out]
  rintro e w' ⟨rfl, rfl⟩
  go_wp2_with fail
  refine (isbitcon_any _ y hy.out hyl.out _).mono ?_
  rw [hb.out]
  rintro e w' ⟨rfl, rfl⟩
  go_wp2_with fail
  go_ret
  exact ⟨rfl, rfl⟩
theorem con32_9 (v : Int) (x y m : Nat) (c1 c2 : Int) (hx0 : 0 ≤ v) (hx : v < 4294967296) (hux : Hid (IntKind.u64.wrap v = (x : Int))) (hxl : Hid (x < 18446744073709551616)) (hy : Hid (bits .or .u64 (v * 4294967296) v = (y : Int))) (hyl : Hid (y < 18446744073709551616))
    (hum : Hid (IntKind.u64.wrap ((-1 - v) % 4294967296) = (m : Int))) (hmm : Hid (m < 18446744073709551616)) (M1 : Hid (movN x = c1)) (M2 : Hid (movN m = c2)) (h0 : (v == 0) = false) (ha : Hid (addB v = false)) (g1 : c1 < 0) (g2 : 0 ≤ c2) (hb : Hid (Pl.isB y = false)) (w : World) :
    Calls Try.prog 33 #[.int .i64 v, .int .i64 32] w fun e w' => e = .returned (.int .i64 23) ∧ w = w' := by
  have hsg : IntKind.i64.signed = true := rfl
  have hnot := not_i64 v (by omega) (by omega)
  go_enter Try.func33, Try.ntmps33
  go_wp2_with fail
  refine (addcon_any _ (by omega) _).mono ?_
  rw [ha.out]
  rintro e w' ⟨rfl, rfl⟩
  go_wp2_with fail
  refine (movcon_any _ x hux.out hxl.out _).mono ?_
  rw [M1.out]
  rintro e w' ⟨rfl, rfl⟩
  go_wp2_with fail
  refine (movcon_any _ m hum.out hmm.out _).mono ?_
  rw [M2.out]
  rintro e w' ⟨rfl, rfl⟩
  go_wp2_with fail
  refine (isbitcon_any _ y hy.out hyl.out _).mono ?_
  rw [hb.out]
  rintro e w' ⟨rfl, rfl⟩
  go_wp2_with fail
  go_ret
  exact ⟨rfl, rfl⟩
theorem con32_10 (v : Int) (x y m : Nat) (c1 c2 : Int) (hx0 : 0 ≤ v) (hx : v < 4294967296) (hux : Hid (IntKind.u64.wrap v = (x : Int))) (hxl : Hid (x < 18446744073709551616)) (hy : Hid (bits .or .u64 (v * 4294967296) v = (y : Int))) (hyl : Hid (y < 18446744073709551616))
    (hum : Hid (IntKind.u64.wrap ((-1 - v) % 4294967296) = (m : Int))) (hmm : Hid (m < 18446744073709551616)) (M1 : Hid (movN x = c1)) (M2 : Hid (movN m = c2)) (h0 : (v == 0) = false) (ha : Hid (addB v = false)) (g1 : c1 < 0) (g2 : c2 < 0) (hb : Hid (Pl.isB y = true)) (w : World) :
    Calls Try.prog 33 #[.int .i64 v, .int .i64 32] w fun e w' => e = .returned (.int .i64 24) ∧ w = w' := by
  have hsg : IntKind.i64.signed = true := rfl
  have hnot := not_i64 v (by omega) (by omega)
  go_enter Try.func33, Try.ntmps33
  go_wp2_with fail
  refine (addcon_any _ (by omega) _).mono ?_
  rw [ha.out]
  rintro e w' ⟨rfl, rfl⟩
  go_wp2_with fail
  refine (movcon_any _ x hux.out hxl.out _).mono ?_
  rw [M1.out]
  rintro e w' ⟨rfl, rfl⟩
  go_wp2_with fail
  refine (movcon_any _ m hum.out hmm.out _).mono ?_
  rw [M2.out]
  rintro e w' ⟨rfl, rfl⟩
  go_wp2_with fail
  refine (isbitcon_any _ y hy.out hyl.out _).mono ?_
  rw [hb.out]
  rintro e w' ⟨rfl, rfl⟩
  go_wp2_with fail
  go_ret
  exact ⟨rfl, rfl⟩
theorem con32_11 (v : Int) (x y m : Nat) (c1 c2 : Int) (hx0 : 0 ≤ v) (hx : v < 4294967296) (hux : Hid (IntKind.u64.wrap v = (x : Int))) (hxl : Hid (x < 18446744073709551616)) (hy : Hid (bits .or .u64 (v * 4294967296) v = (y : Int))) (hyl : Hid (y < 18446744073709551616))
    (hum : Hid (IntKind.u64.wrap ((-1 - v) % 4294967296) = (m : Int))) (hmm : Hid (m < 18446744073709551616)) (M1 : Hid (movN x = c1)) (M2 : Hid (movN m = c2)) (h0 : (v == 0) = false) (ha : Hid (addB v = false)) (g1 : c1 < 0) (g2 : c2 < 0) (hb : Hid (Pl.isB y = false)) (hc : Hid (add24B v = true)) (w : World) :
    Calls Try.prog 33 #[.int .i64 v, .int .i64 32] w fun e w' => e = .returned (.int .i64 25) ∧ w = w' := by
  have hsg : IntKind.i64.signed = true := rfl
  have hnot := not_i64 v (by omega) (by omega)
  go_enter Try.func33, Try.ntmps33
  go_wp2_with fail
  refine (addcon_any _ (by omega) _).mono ?_
  rw [ha.out]
  rintro e w' ⟨rfl, rfl⟩
  go_wp2_with fail
  refine (movcon_any _ x hux.out hxl.out _).mono ?_
  rw [M1.out]
  rintro e w' ⟨rfl, rfl⟩
  go_wp2_with fail
  refine (movcon_any _ m hum.out hmm.out _).mono ?_
  rw [M2.out]
  rintro e w' ⟨rfl, rfl⟩
  go_wp2_with fail
  refine (isbitcon_any _ y hy.out hyl.out _).mono ?_
  rw [hb.out]
  rintro e w' ⟨rfl, rfl⟩
  go_wp2_with fail
  refine (addcon2_any _ _).mono ?_
  rw [hc.out]
  rintro e w' ⟨rfl, rfl⟩
  go_wp2_with fail
  go_ret
  exact ⟨rfl, rfl⟩
theorem con32_12 (v : Int) (x y m : Nat) (c1 c2 : Int) (hx0 : 0 ≤ v) (hx : v < 4294967296) (hux : Hid (IntKind.u64.wrap v = (x : Int))) (hxl : Hid (x < 18446744073709551616)) (hy : Hid (bits .or .u64 (v * 4294967296) v = (y : Int))) (hyl : Hid (y < 18446744073709551616))
    (hum : Hid (IntKind.u64.wrap ((-1 - v) % 4294967296) = (m : Int))) (hmm : Hid (m < 18446744073709551616)) (M1 : Hid (movN x = c1)) (M2 : Hid (movN m = c2)) (h0 : (v == 0) = false) (ha : Hid (addB v = false)) (g1 : c1 < 0) (g2 : c2 < 0) (hb : Hid (Pl.isB y = false)) (hc : Hid (add24B v = false)) (w : World) :
    Calls Try.prog 33 #[.int .i64 v, .int .i64 32] w fun e w' => e = .returned (.int .i64 26) ∧ w = w' := by
  have hsg : IntKind.i64.signed = true := rfl
  have hnot := not_i64 v (by omega) (by omega)
  go_enter Try.func33, Try.ntmps33
  go_wp2_with fail
  refine (addcon_any _ (by omega) _).mono ?_
  rw [ha.out]
  rintro e w' ⟨rfl, rfl⟩
  go_wp2_with fail
  refine (movcon_any _ x hux.out hxl.out _).mono ?_
  rw [M1.out]
  rintro e w' ⟨rfl, rfl⟩
  go_wp2_with fail
  refine (movcon_any _ m hum.out hmm.out _).mono ?_
  rw [M2.out]
  rintro e w' ⟨rfl, rfl⟩
  go_wp2_with fail
  refine (isbitcon_any _ y hy.out hyl.out _).mono ?_
  rw [hb.out]
  rintro e w' ⟨rfl, rfl⟩
  go_wp2_with fail
  refine (addcon2_any _ _).mono ?_
  rw [hc.out]
  rintro e w' ⟨rfl, rfl⟩
  go_wp2_with fail
  go_ret
  exact ⟨rfl, rfl⟩
theorem con32_z (w : World) : Calls Try.prog 33 #[.int .i64 ((0 : Nat) : Int), .int .i64 32] w fun e w' => e = .returned (.int .i64 16) ∧ w = w' := by
  have hsg : IntKind.i64.signed = true := rfl
  have hnot := not_i64 0 (by omega) (by omega)
  go_enter Try.func33, Try.ntmps33
  go_wp2_with fail
  go_ret
  exact ⟨rfl, rfl⟩

theorem conclass_32 (x y m : Nat) (hx : x < 4294967296) (hy : Hid (bits .or .u64 ((x : Int) * 4294967296) (x : Int) = (y : Int))) (hyl : Hid (y < 18446744073709551616))
    (hum : Hid (IntKind.u64.wrap ((-1 - (x : Int)) % 4294967296) = (m : Int))) (hmm : Hid (m < 18446744073709551616)) (w : World) :
    Calls Try.prog 33 #[.int .i64 x, .int .i64 32] w fun e w' => e = .returned (.int .i64 (classZ x (Pl.isB y) (movN x) (movN m))) ∧ w = w' := by
  have hw : wordB (x : Int) = true := by simp [wordB]; omega
  by_cases h0 : x = 0
  · subst h0
    have e : classZ ((0 : Nat) : Int) (Pl.isB y) (movN 0) (movN m) = 16 := (cz0 rfl).symm
    rw [e]; exact con32_z w
  have e0 : ((x : Int) == 0) = false := by simp; omega
  obtain ⟨c1, M1⟩ : ∃ c, movN x = c := ⟨_, rfl⟩
  obtain ⟨c2, M2⟩ : ∃ c, movN m = c := ⟨_, rfl⟩
  rw [M1, M2]
  have hux := Lib.hid (show IntKind.u64.wrap (x : Int) = (x : Int) from IntWalk.u64_in _ (by omega))
  have hxl := Lib.hid (show x < 18446744073709551616 by omega)
  by_cases ha : addB x = true
  · have HA := Lib.hid ha
    by_cases hl : (x : Int) ≤ 4095
    · cases hb : Pl.isB y
      · rw [← cz2 e0 ha hl rfl]; exact con32_1 x x y m c1 c2 (by omega) (by omega) hux hxl hy hyl hum hmm (Lib.hid M1) (Lib.hid M2) e0 HA hl (Lib.hid hb) w
      · rw [← cz1 e0 ha hl rfl]; exact con32_0 x x y m c1 c2 (by omega) (by omega) hux hxl hy hyl hum hmm (Lib.hid M1) (Lib.hid M2) e0 HA hl (Lib.hid hb) w
    · have hl' : 4095 < (x : Int) := by omega
      cases hb : Pl.isB y
      · by_cases g1 : 0 ≤ c1
        · rw [← cz4 e0 ha hl' rfl g1]; exact con32_3 x x y m c1 c2 (by omega) (by omega) hux hxl hy hyl hum hmm (Lib.hid M1) (Lib.hid M2) e0 HA hl' (Lib.hid hb) g1 w
        · have g1' : c1 < 0 := by omega
          by_cases g2 : 0 ≤ c2
          · rw [← cz5 e0 ha hl' rfl g1' g2]; exact con32_4 x x y m c1 c2 (by omega) (by omega) hux hxl hy hyl hum hmm (Lib.hid M1) (Lib.hid M2) e0 HA hl' (Lib.hid hb) g1' g2 w
          · have g2' : c2 < 0 := by omega
            rw [← cz6 e0 ha hl' rfl g1' g2']; exact con32_5 x x y m c1 c2 (by omega) (by omega) hux hxl hy hyl hum hmm (Lib.hid M1) (Lib.hid M2) e0 HA hl' (Lib.hid hb) g1' g2' w
      · rw [← cz3 e0 ha hl' rfl]; exact con32_2 x x y m c1 c2 (by omega) (by omega) hux hxl hy hyl hum hmm (Lib.hid M1) (Lib.hid M2) e0 HA hl' (Lib.hid hb) w
  · have ha' : addB x = false := by simpa using ha
    have HA := Lib.hid ha'
    by_cases g1 : 0 ≤ c1
    · cases hb : Pl.isB y
      · rw [← cz8 e0 ha' g1 rfl]; exact con32_7 x x y m c1 c2 (by omega) (by omega) hux hxl hy hyl hum hmm (Lib.hid M1) (Lib.hid M2) e0 HA g1 (Lib.hid hb) w
      · rw [← cz7 e0 ha' g1 rfl]; exact con32_6 x x y m c1 c2 (by omega) (by omega) hux hxl hy hyl hum hmm (Lib.hid M1) (Lib.hid M2) e0 HA g1 (Lib.hid hb) w
    · have g1' : c1 < 0 := by omega
      by_cases g2 : 0 ≤ c2
      · cases hb : Pl.isB y
        · rw [← cz10 e0 ha' g1' g2 rfl]; exact con32_9 x x y m c1 c2 (by omega) (by omega) hux hxl hy hyl hum hmm (Lib.hid M1) (Lib.hid M2) e0 HA g1' g2 (Lib.hid hb) w
        · rw [← cz9 e0 ha' g1' g2 rfl]; exact con32_8 x x y m c1 c2 (by omega) (by omega) hux hxl hy hyl hum hmm (Lib.hid M1) (Lib.hid M2) e0 HA g1' g2 (Lib.hid hb) w
      · have g2' : c2 < 0 := by omega
        cases hb : Pl.isB y
        · cases hc : add24B (x : Int)
          · rw [← cz13 e0 ha' g1' g2' rfl hc hw]; exact con32_12 x x y m c1 c2 (by omega) (by omega) hux hxl hy hyl hum hmm (Lib.hid M1) (Lib.hid M2) e0 HA g1' g2' (Lib.hid hb) (Lib.hid hc) w
          · rw [← cz12 e0 ha' g1' g2' rfl hc]; exact con32_11 x x y m c1 c2 (by omega) (by omega) hux hxl hy hyl hum hmm (Lib.hid M1) (Lib.hid M2) e0 HA g1' g2' (Lib.hid hb) (Lib.hid hc) w
        · rw [← cz11 e0 ha' g1' g2' rfl]; exact con32_10 x x y m c1 c2 (by omega) (by omega) hux hxl hy hyl hum hmm (Lib.hid M1) (Lib.hid M2) e0 HA g1' g2' (Lib.hid hb) w
end Go.Proofs.Ytfjegjdphfppkaa
