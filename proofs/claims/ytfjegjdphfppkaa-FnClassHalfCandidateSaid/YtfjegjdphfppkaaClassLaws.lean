/- The walks of six laws on classes. -/
import Derived.Test.YtfjegjdphfppkaaNarrow
namespace Go.Proofs.Ytfjegjdphfppkaa
open Go.RowKit

theorem not_of (v : Int) (u : Nat) (hv : IntKind.u64.wrap v = u) : IntKind.u64.wrap (-1 - v) = ((18446744073709551615 - u : Nat) : Int) := by
  rw [IntKind.wrap_u64] at hv ⊢; omega

/-- All that a walk needs of a number. -/
structure Num (v : Int) (u n : Nat) : Prop where
  b0 : -9223372036854775808 ≤ v
  b1 : v ≤ 9223372036854775807
  hv : IntKind.u64.wrap v = u
  hu : u < 18446744073709551616
  hn : IntKind.u64.wrap (-1 - v) = n
  hnl : n < 18446744073709551616
  hm : moveB u = true ↔ 0 ≤ movN u ∨ 0 ≤ movN n

theorem num_of (v : Int) (w0 : (Lit.int .i64 v).wf = true) : ∃ u n, Num v u n := by
  obtain ⟨b0, b1⟩ := bounds_i64 w0
  obtain ⟨u, hv, hu⟩ := u64_of v
  exact ⟨u, 18446744073709551615 - u, b0, b1, hv, hu, not_of v u hv, by omega, move_iff u hu⟩

theorem class_num (v : Int) (u n : Nat) (N : Hid (Num v u n)) (w : World) :
    Calls Try.prog 15 #[.int .i64 v, .int .i64 64] w fun e w' => e = .returned (.int .i64 (classZ v (Pl.isB u) (movN u) (movN n))) ∧ w = w' :=
  class_64 v u n N.out.b0 N.out.b1 (Lib.hid N.out.hv) (Lib.hid N.out.hu) (Lib.hid N.out.hn) (Lib.hid N.out.hnl) w
theorem class_is (v : Int) (u n : Nat) (c : Int) (N : Hid (Num v u n)) (h : classZ v (Pl.isB u) (movN u) (movN n) = c) (w : World) :
    Calls Try.prog 15 #[.int .i64 v, .int .i64 64] w fun e w' => e = .returned (.int .i64 c) ∧ w = w' := by
  have := class_num v u n N w
  rwa [h] at this

theorem fnClass_walk (a0 : Int) (w0 : (Lit.int .i64 a0).wf = true) (w : World) :
    Calls Try.prog 6 #[.int .i64 a0] w fun e w' => e = .returned (.bool true) ∧ Grown w w' := by
  obtain ⟨u, n, N⟩ := num_of a0 w0
  have HN := Lib.hid N
  have hc := narrow_class a0 (Pl.isB u) (moveB u) (movN u) (movN n) N.hm
  clear N w0
  obtain ⟨c, hz⟩ : ∃ c, c = narrowZ a0 (Pl.isB u) (moveB u) := ⟨_, rfl⟩
  rw [← hz] at hc
  have HR := Lib.hid (show narrowR a0 (Pl.isB u) (moveB u) = .returned (.tuple #[.int .i64 c, .bool (c != 0)]) by rw [hz]; rfl)
  clear hz
  rcases hc with ⟨h1, h2⟩ | ⟨h1, _⟩
  · have HC := Lib.hid h2
    have e1 : (c != 0) = true := by simpa using h1
    clear h1 h2
    go_enter Try.func6, Try.ntmps6
    go_wp2_with fail
    refine (narrow_any _ u HN.out.hv (Lib.hid HN.out.hu) _).mono ?_
    rw [HR.out, e1]
    rintro e w' ⟨rfl, rfl⟩
    go_wp2_with fail
    refine (class_is _ u n c HN HC.out _).mono ?_
    rintro e w' ⟨rfl, rfl⟩
    go_wp2
    go_ret
    exact ⟨rfl, Grown.refl _⟩
  · subst h1
    go_enter Try.func6, Try.ntmps6
    go_wp2_with fail
    refine (narrow_any _ u HN.out.hv (Lib.hid HN.out.hu) _).mono ?_
    rw [HR.out]
    rintro e w' ⟨rfl, rfl⟩
    go_wp2_with fail
    go_ret
    exact ⟨rfl, Grown.refl _⟩

theorem fnClassWide_walk (a0 : Int) (w0 : (Lit.int .i64 a0).wf = true) (w : World) :
    Calls Try.prog 11 #[.int .i64 a0] w fun e w' => e = .returned (.bool true) ∧ Grown w w' := by
  obtain ⟨u, n, N⟩ := num_of a0 w0
  have HN := Lib.hid N
  have hc := narrow_class a0 (Pl.isB u) (moveB u) (movN u) (movN n) N.hm
  clear N w0
  obtain ⟨c, hz⟩ : ∃ c, c = narrowZ a0 (Pl.isB u) (moveB u) := ⟨_, rfl⟩
  rw [← hz] at hc
  have HR := Lib.hid (show narrowR a0 (Pl.isB u) (moveB u) = .returned (.tuple #[.int .i64 c, .bool (c != 0)]) by rw [hz]; rfl)
  clear hz
  rcases hc with ⟨h1, h2⟩ | ⟨h1, ⟨h2, h3⟩ | h2⟩
  · have e1 : (c != 0) = true := by simpa using h1
    clear h1 h2
    go_enter Try.func11, Try.ntmps11
    go_wp2_with fail
    refine (narrow_any _ u HN.out.hv (Lib.hid HN.out.hu) _).mono ?_
    rw [HR.out, e1]
    rintro e w' ⟨rfl, rfl⟩
    go_wp2_with fail
    go_ret
    exact ⟨rfl, Grown.refl _⟩
  · subst h1
    have HC := Lib.hid h2
    have HW := Lib.hid h3
    clear h2 h3
    go_enter Try.func11, Try.ntmps11
    go_wp2_with fail
    refine (narrow_any _ u HN.out.hv (Lib.hid HN.out.hu) _).mono ?_
    rw [HR.out]
    rintro e w' ⟨rfl, rfl⟩
    go_wp2_with fail
    refine (class_is _ u n 26 HN HC.out _).mono ?_
    rintro e w' ⟨rfl, rfl⟩
    go_wp2_with fail
    refine (word_any _ _).mono ?_
    rw [HW.out]
    rintro e w' ⟨rfl, rfl⟩
    go_wp2
    go_ret
    exact ⟨rfl, Grown.refl _⟩
  · subst h1
    have HC := Lib.hid h2
    clear h2
    go_enter Try.func11, Try.ntmps11
    go_wp2_with fail
    refine (narrow_any _ u HN.out.hv (Lib.hid HN.out.hu) _).mono ?_
    rw [HR.out]
    rintro e w' ⟨rfl, rfl⟩
    go_wp2_with fail
    refine (class_is _ u n 29 HN HC.out _).mono ?_
    rintro e w' ⟨rfl, rfl⟩
    go_wp2
    go_ret
    exact ⟨rfl, Grown.refl _⟩

theorem class_zero (v : Int) (b : Bool) (m1 m2 : Int) : (classZ v b m1 m2 == 16) = (v == 0) := by
  unfold classZ
  by_cases h : v = 0
  · simp [h]
  · have e : (v == 0) = false := by simpa using h
    rw [if_neg h, e]
    repeat' split
    all_goals decide

theorem fnClassZero_walk (a0 : Int) (w0 : (Lit.int .i64 a0).wf = true) (w : World) :
    Calls Try.prog 12 #[.int .i64 a0] w fun e w' => e = .returned (.bool true) ∧ Grown w w' := by
  obtain ⟨u, n, N⟩ := num_of a0 w0
  have HN := Lib.hid N
  clear N w0
  obtain ⟨u2, n2, N2⟩ := num_of 0 (by decide)
  have HN2 := Lib.hid N2
  clear N2
  obtain ⟨c, hc⟩ : ∃ c, c = classZ a0 (Pl.isB u) (movN u) (movN n) := ⟨_, rfl⟩
  have e := class_zero a0 (Pl.isB u) (movN u) (movN n)
  rw [← hc] at e
  have HC := Lib.hid hc
  clear hc
  have h0 := Lib.hid (show classZ 0 (Pl.isB u2) (movN u2) (movN n2) = 16 by unfold classZ; rw [if_pos rfl])
  go_enter Try.func12, Try.ntmps12
  go_wp2_with fail
  refine (class_is _ u n c HN HC.out.symm _).mono ?_
  rintro e w' ⟨rfl, rfl⟩
  go_wp2_with fail
  refine (class_is _ u2 n2 16 HN2 h0.out _).mono ?_
  rintro e w' ⟨rfl, rfl⟩
  go_wp2
  go_ret
  exact ⟨rfl, Grown.refl _⟩

theorem class_add (v : Int) (b : Bool) (m1 m2 : Int) (h : add12B v = true) (h0 : v ≠ 0) : classZ v b m1 m2 = if b = true then 17 else 18 := by
  simp [add12B] at h
  unfold classZ
  rw [if_neg h0, if_pos (by simp [addB]; omega), if_pos (by omega)]

theorem fnClassAdd_walk (a0 : Int) (w0 : (Lit.int .i64 a0).wf = true) (w : World) :
    Calls Try.prog 7 #[.int .i64 a0] w fun e w' => e = .returned (.bool true) ∧ Grown w w' := by
  obtain ⟨u, n, N⟩ := num_of a0 w0
  have HN := Lib.hid N
  have hv := N.hv
  clear N w0
  cases h12 : add12B a0
  · have H12 := Lib.hid h12; clear h12
    go_enter Try.func7, Try.ntmps7
    go_wp2_with fail
    refine (add12_any _ _).mono ?_
    rw [H12.out]
    rintro e w' ⟨rfl, rfl⟩
    go_wp2_with fail
    go_ret
    exact ⟨rfl, Grown.refl _⟩
  have H12 := Lib.hid h12
  by_cases h0 : a0 = 0
  · have e0 : (a0 == 0) = true := by simpa using h0
    clear h0 h12
    go_enter Try.func7, Try.ntmps7
    go_wp2_with fail
    refine (add12_any _ _).mono ?_
    rw [H12.out]
    rintro e w' ⟨rfl, rfl⟩
    go_wp2_with fail
    go_ret
    exact ⟨rfl, Grown.refl _⟩
  have e0 : (a0 == 0) = false := by simpa using h0
  cases hb : Pl.isB u
  · have HC := Lib.hid (show classZ a0 (Pl.isB u) (movN u) (movN n) = 18 by rw [class_add a0 _ _ _ h12 h0, hb]; rfl)
    have HB := Lib.hid hb
    clear h0 h12 hb
    go_enter Try.func7, Try.ntmps7
    go_wp2_with fail
    refine (add12_any _ _).mono ?_
    rw [H12.out]
    rintro e w' ⟨rfl, rfl⟩
    go_wp2_with fail
    refine (spec_is _ u rfl HN.out.hu _).mono ?_
    rw [HB.out]
    rintro e w' ⟨rfl, rfl⟩
    go_wp2_with fail
    refine (class_is _ u n 18 HN HC.out _).mono ?_
    rintro e w' ⟨rfl, rfl⟩
    go_wp2
    go_ret
    exact ⟨rfl, Grown.refl _⟩
  · have HC := Lib.hid (show classZ a0 (Pl.isB u) (movN u) (movN n) = 17 by rw [class_add a0 _ _ _ h12 h0, hb]; rfl)
    have HB := Lib.hid hb
    clear h0 h12 hb
    go_enter Try.func7, Try.ntmps7
    go_wp2_with fail
    refine (add12_any _ _).mono ?_
    rw [H12.out]
    rintro e w' ⟨rfl, rfl⟩
    go_wp2_with fail
    refine (spec_is _ u rfl HN.out.hu _).mono ?_
    rw [HB.out]
    rintro e w' ⟨rfl, rfl⟩
    go_wp2_with fail
    refine (class_is _ u n 17 HN HC.out _).mono ?_
    rintro e w' ⟨rfl, rfl⟩
    go_wp2
    go_ret
    exact ⟨rfl, Grown.refl _⟩

theorem wf_i64_of (u : Nat) : (Lit.int .i64 (wrap64 (u : Int))).wf = true := WalkArith.wf_i64 (by unfold wrap64; omega)
theorem i64_back (u : Nat) (hu : u < 18446744073709551616) : IntKind.u64.wrap (wrap64 (u : Int)) = u := by
  rw [IntKind.wrap_u64]; unfold wrap64; omega

theorem class_mask (v : Int) (m1 m2 : Int) (h0 : v ≠ 0) : classZ v true m1 m2 = 17 ∨ classZ v true m1 m2 = 19 ∨ classZ v true m1 m2 = 22 ∨ classZ v true m1 m2 = 24 := by
  unfold classZ
  rw [if_neg h0]
  simp only [if_true]
  repeat' split
  all_goals simp

theorem fnClassMask_walk (a0 : Int) (a1 : Int) (a2 : Int) (_w0 : (Lit.int .i64 a0).wf = true) (_w1 : (Lit.int .i64 a1).wf = true) (_w2 : (Lit.int .i64 a2).wf = true) (w : World) :
    Calls Try.prog 9 #[.int .i64 a0, .int .i64 a1, .int .i64 a2] w fun e w' => e = .returned (.bool true) ∧ Grown w w' := by
  by_cases h : MadeZ a0 a1 a2
  · have H := Lib.hid h
    obtain ⟨p, m, b, rfl, rfl, rfl, hm⟩ := madeZ_nat h
    have HM := Lib.hid hm
    have hl : Pl.made p m b < 18446744073709551616 := of_decide_eq_true (Pl.allMade_at Pl.chk_lt hm)
    have hb : Pl.isB (Pl.made p m b) = true := Pl.allMade_at Pl.chk_isB hm
    obtain ⟨u, n, N⟩ := num_of (wrap64 (Pl.made p m b : Nat)) (wf_i64_of _)
    have eu : u = Pl.made p m b := by
      have h1 := N.hv
      rw [i64_back _ hl] at h1
      omega
    have h0 : wrap64 ((Pl.made p m b : Nat) : Int) ≠ 0 := by
      intro h1
      have h2 := i64_back _ hl
      rw [h1] at h2
      have h3 : Pl.made p m b = 0 := by
        have : IntKind.u64.wrap 0 = 0 := by decide
        omega
      rw [h3] at hb
      exact absurd hb (by decide +kernel)
    have hc := class_mask (wrap64 ((Pl.made p m b : Nat) : Int)) (movN u) (movN n) h0
    have hbu : Pl.isB u = true := by rw [eu]; exact hb
    have HN := Lib.hid N
    rw [← hbu] at hc
    clear h hm hl hb N eu h0 hbu
    rcases hc with hc | hc | hc | hc
    all_goals
      have HC := Lib.hid hc
      clear hc
      go_enter Try.func9, Try.ntmps9
      go_wp2_with fail
      refine (ismade_yes _ _ _ H.out _).mono ?_
      rintro e w' ⟨rfl, rfl⟩
      go_wp2_with fail
      refine (made_any p m b _ rfl HM.out.1 HM.out.2.2.1 HM.out.2.2.2 _).mono ?_
      rintro e w' ⟨rfl, rfl⟩
      go_wp2_with fail
      refine (class_is _ u n _ HN HC.out _).mono ?_
      rintro e w' ⟨rfl, rfl⟩
      go_wp2
      go_ret
      exact ⟨rfl, Grown.refl _⟩
  · have H := Lib.hid h; clear h
    go_enter Try.func9, Try.ntmps9
    go_wp2_with fail
    refine (ismade_no _ _ _ H.out _).mono ?_
    rintro e w' ⟨rfl, rfl⟩
    go_wp2_with fail
    go_ret
    exact ⟨rfl, Grown.refl _⟩
end Go.Proofs.Ytfjegjdphfppkaa
