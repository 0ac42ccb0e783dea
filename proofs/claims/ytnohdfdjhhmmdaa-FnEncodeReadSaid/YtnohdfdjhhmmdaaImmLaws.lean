/- The walks of the laws FnEncodeRead and FnEncodeRepeated. -/
import Derived.Test.YtnohdfdjhhmmdaaImm
namespace Go.Proofs.Ytnohdfdjhhmmdaa
open Go.RowKit

theorem and1 (c : Nat) (hc : c < 4294967296) : bits .and .u32 ((c : Int) / 4194304) 1 = ((c / 4194304 % 2 : Nat) : Int) := by
  have := u32_and_nat (c / 4194304) 1 (by omega) (by decide)
  rw [nat_mask1] at this
  exact this
theorem and63a (c : Nat) (hc : c < 4294967296) : bits .and .u32 ((c : Int) / 65536) 63 = ((c / 65536 % 64 : Nat) : Int) := by
  have := u32_and_nat (c / 65536) 63 (by omega) (by decide)
  rw [nat_mask6] at this
  exact this
theorem and63b (c : Nat) (hc : c < 4294967296) : bits .and .u32 ((c : Int) / 1024) 63 = ((c / 1024 % 64 : Nat) : Int) := by
  have := u32_and_nat (c / 1024) 63 (by omega) (by decide)
  rw [nat_mask6] at this
  exact this

def immC (c : Nat) : Option (Nat × Nat × Nat) := immR (c / 4194304 % 2) (c / 65536 % 64) (c / 1024 % 64)

theorem imm_nat (z : Int) (c : Nat) (hz : z = c) (hc : c < 4294967296) (w : World) :
    Calls Try.prog 20 #[.int .u32 z] w fun e w' => e = immE (immC c) ∧ w = w' := by
  subst hz
  exact imm_any c _ _ _ (by omega) (by omega) (by omega) (and1 c hc) (and63a c hc) (and63b c hc) w

theorem chkRead : Pl.allMade (fun p n b => immC (fieldsN p n b) == some (p, n, b) && decide (fieldsN p n b < 4294967296)) = true := by decide +kernel
theorem read_facts {p n b : Nat} (hm : Pl.IsMade p n b) : immC (fieldsN p n b) = some (p, n, b) ∧ fieldsN p n b < 4294967296 := by
  have := Pl.allMade_at chkRead hm
  simpa using this

theorem imm_fields (p n b : Nat) (hm : Pl.IsMade p n b) (w : World) :
    Calls Try.prog 20 #[.int .u32 (fieldsN p n b : Nat)] w fun e w' => e = .returned (.tuple #[.int .u64 (Pl.made p n b : Nat), .bool true]) ∧ w = w' := by
  obtain ⟨h1, h2⟩ := read_facts hm
  have := imm_nat _ (fieldsN p n b) rfl h2 w
  rwa [h1, immE_some] at this

theorem fnEncodeRead_walk (a0 : Int) (a1 : Int) (a2 : Int) (_w0 : (Lit.int .i64 a0).wf = true) (_w1 : (Lit.int .i64 a1).wf = true) (_w2 : (Lit.int .i64 a2).wf = true) (w : World) :
    Calls Try.prog 11 #[.int .i64 a0, .int .i64 a1, .int .i64 a2] w fun e w' => e = .returned (.bool true) ∧ Grown w w' := by
  by_cases h : MadeZ a0 a1 a2
  · have H := Lib.hid h
    obtain ⟨p, n, b, rfl, rfl, rfl, hm⟩ := madeZ_nat h
    clear h
    have HM := Lib.hid hm; clear hm
    go_enter Try.func11, Try.ntmps11
    go_wp2_with fail
    refine (ismade_yes _ _ _ H.out _).mono ?_
    rintro e w' ⟨rfl, rfl⟩
    go_wp2_with fail
    refine (made_any p n b _ rfl HM.out.1 HM.out.2.2.1 HM.out.2.2.2 _).mono ?_
    rintro e w' ⟨rfl, rfl⟩
    go_wp2_with fail
    refine (iencode_any _ _ p n b rfl HM.out (.inl rfl) _).mono ?_
    rintro e w' ⟨rfl, rfl⟩
    go_wp2_with fail
    refine (imm_fields p n b HM.out _).mono ?_
    rintro e w' ⟨rfl, rfl⟩
    go_wp2
    go_ret
    exact ⟨rfl, Grown.refl _⟩
  · have H := Lib.hid h; clear h
    go_enter Try.func11, Try.ntmps11
    go_wp2_with fail
    refine (ismade_no _ _ _ H.out _).mono ?_
    rintro e w' ⟨rfl, rfl⟩
    go_wp2_with fail
    go_ret
    exact ⟨rfl, Grown.refl _⟩

def chkK (k : Nat) : Bool := match immC (1024 * k) with
  | none => true
  | some (p, n, b) => decide (p ∈ Pl.periods) && decide (1 ≤ n) && decide (n < p) && decide (b < p) && decide (fieldsN p n b / 1024 % 64 = k % 64) && decide (fieldsN p n b / 4194304 = k / 4096)
theorem chkRep : (List.range 8192).all chkK = true := by decide +kernel
theorem rep_facts (k p n b : Nat) (hk : k < 8192) (h : immC (1024 * k) = some (p, n, b)) : Pl.IsMade p n b ∧ fieldsN p n b / 1024 % 64 = k % 64 ∧ fieldsN p n b / 4194304 = k / 4096 := by
  have := List.all_eq_true.1 chkRep k (List.mem_range.2 hk)
  unfold chkK at this
  rw [h] at this
  simp only [Bool.and_eq_true, decide_eq_true_eq] at this
  obtain ⟨⟨⟨⟨⟨h1, h2⟩, h3⟩, h4⟩, h5⟩, h6⟩ := this
  exact ⟨⟨h1, h2, h3, h4⟩, h5, h6⟩

theorem code_form (c : Nat) (hc : c < 4294967296) : bits .and .u32 (c : Int) 8387584 = ((1024 * (c / 1024 % 8192) : Nat) : Int) := by
  have h := u32_and_nat c 8387584 hc (by decide)
  have e : c &&& 8387584 = 1024 * (c / 1024 % 8192) := by
    have h1 := Nat.and_div_two_pow (a := c) (b := 8387584) (n := 10)
    have h2 := Nat.and_mod_two_pow (a := c) (b := 8387584) (n := 10)
    have h3 : (8387584 : Nat) / 2 ^ 10 = 2 ^ 13 - 1 := by decide
    have h4 : (8387584 : Nat) % 2 ^ 10 = 0 := by decide
    rw [h3, Nat.and_two_pow_sub_one_eq_mod] at h1
    rw [h4, Nat.and_zero] at h2
    simp only [Nat.reducePow] at h1 h2
    omega
  rw [e] at h
  exact h

theorem rep_main (v : Int) (d : Int) (k p n b f : Nat) (hcode : bits .and .u32 v 8387584 = d) (hd : Hid (d = (1024 * k : Nat))) (HI : Hid (immC (1024 * k) = some (p, n, b))) (hk : Hid (k < 8192)) (HM : Hid (Pl.IsMade p n b))
    (hf : Hid (fieldsN p n b = f)) (t1 : bits .and .u32 ((f : Int) / 1024) 63 = bits .and .u32 (d / 1024) 63) (t2 : (f : Int) / 4194304 = d / 4194304) (w : World) :
    Calls Try.prog 12 #[.int .u32 v] w fun e w' => e = .returned (.bool true) ∧ Grown w w' := by
  have H1 := fun W => Lib.hid (imm_nat d (1024 * k) hd.out (by have := hk.out; omega) W)
  have H2 := fun W => Lib.hid (imm_fields p n b HM.out W)
  rw [hf.out] at H2
  go_enter Try.func12, Try.ntmps12
  go_wp2_with fail
  refine (H1 _).out.mono ?_
  rw [HI.out, immE_some]
  rintro e w' ⟨rfl, rfl⟩
  go_wp2_with fail
  refine (iencode_any _ _ p n b rfl HM.out (.inl rfl) _).mono ?_
  rw [hf.out]
  rintro e w' ⟨rfl, rfl⟩
  go_wp2_with fail
  refine (H2 _).out.mono ?_
  rintro e w' ⟨rfl, rfl⟩
  go_wp2_with fail
  refine (iencode_any _ _ p n b rfl HM.out (.inl rfl) _).mono ?_
  rw [hf.out]
  rintro e w' ⟨rfl, rfl⟩
  go_wp2_with fail
  refine (iencode_any _ _ p n b rfl HM.out (.inl rfl) _).mono ?_
  rw [hf.out]
  rintro e w' ⟨rfl, rfl⟩
  go_wp2
  go_ret
  exact ⟨rfl, Grown.refl _⟩
theorem rep_none (v : Int) (d : Int) (k : Nat) (hcode : bits .and .u32 v 8387584 = d) (hd : Hid (d = (1024 * k : Nat))) (HI : Hid (immC (1024 * k) = none)) (hk : Hid (k < 8192)) (w : World) :
    Calls Try.prog 12 #[.int .u32 v] w fun e w' => e = .returned (.bool true) ∧ Grown w w' := by
  have H1 := fun W => Lib.hid (imm_nat d (1024 * k) hd.out (by have := hk.out; omega) W)
  go_enter Try.func12, Try.ntmps12
  go_wp2_with fail
  refine (H1 _).out.mono ?_
  rw [HI.out, immE_none]
  rintro e w' ⟨rfl, rfl⟩
  go_wp2_with fail
  go_ret
  exact ⟨rfl, Grown.refl _⟩

theorem fnEncodeRepeated_walk (a0 : Int) (w0 : (Lit.int .u32 a0).wf = true) (w : World) :
    Calls Try.prog 12 #[.int .u32 a0] w fun e w' => e = .returned (.bool true) ∧ Grown w w' := by
  obtain ⟨b0, b1⟩ := bounds_u32 w0
  obtain ⟨c, hc⟩ := Int.eq_ofNat_of_zero_le b0
  have hcode := code_form c (by omega)
  rw [← hc] at hcode
  have hk : c / 1024 % 8192 < 8192 := Nat.mod_lt _ (by decide)
  generalize c / 1024 % 8192 = k at hcode hk
  cases HI : immC (1024 * k) with
  | none => exact rep_none a0 _ k hcode (Lib.hid rfl) (Lib.hid HI) (Lib.hid hk) w
  | some t =>
    obtain ⟨p, n, b⟩ := t
    obtain ⟨hm, h1, h2⟩ := rep_facts k p n b hk HI
    obtain ⟨_, hfl⟩ := read_facts hm
    refine rep_main a0 _ k p n b _ hcode (Lib.hid rfl) (Lib.hid HI) (Lib.hid hk) (Lib.hid hm) (Lib.hid rfl) ?_ ?_ w
    · rw [and63b _ hfl, and63b (1024 * k) (by omega), h1]
      exact congrArg Nat.cast (by omega)
    · have : fieldsN p n b / 4194304 = 1024 * k / 4194304 := by rw [h2]; omega
      omega
end Go.Proofs.Ytnohdfdjhhmmdaa
