/- The contract of the reference's Fields, and the walks of the laws FnEncode, FnEncodeModes and FnEncodeTurned. -/
import Derived.Test.YtnohdfdjhhmmdaaEncMade
namespace Go.Proofs.Ytnohdfdjhhmmdaa
open Go.RowKit

theorem chkF_2 : ((List.range 2).all fun n => decide (n = 0) || (List.range 2).all fun b => bits .or .u32 (((b : Nat) : Int) * 65536) (bits .or .u32 (((n : Nat) : Int) - 1) 60 * 1024 % 4294967296) == ((fieldsN 2 n b : Nat) : Int)) = true := by decide +kernel
theorem fields_2 (n b : Nat) (h1 : 1 ≤ n) (h2 : n < 2) (h3 : b < 2) (w : World) :
    Calls Try.prog 19 #[.int .i64 2, .int .i64 n, .int .i64 b] w fun e w' => e = .returned (.int .u32 (fieldsN 2 n b : Nat)) ∧ w = w' := by
  have hf : bits .or .u32 ((b : Int) * 65536) (bits .or .u32 ((n : Int) - 1) 60 * 1024 % 4294967296) = ((fieldsN 2 n b : Nat) : Int) := by
    have := List.all_eq_true.1 chkF_2 n (List.mem_range.2 h2)
    simp only [Bool.or_eq_true, decide_eq_true_eq] at this
    rcases this with h | h
    · omega
    · have := List.all_eq_true.1 h b (List.mem_range.2 h3)
      simpa using this
  have HF := Lib.hid hf
  clear hf
  go_enter Try.func19, Try.ntmps19
  go_wp2
  go_ret
  exact ⟨ret_int HF.out, rfl⟩
theorem chkF_4 : ((List.range 4).all fun n => decide (n = 0) || (List.range 4).all fun b => bits .or .u32 (((b : Nat) : Int) * 65536) (bits .or .u32 (((n : Nat) : Int) - 1) 56 * 1024 % 4294967296) == ((fieldsN 4 n b : Nat) : Int)) = true := by decide +kernel
theorem fields_4 (n b : Nat) (h1 : 1 ≤ n) (h2 : n < 4) (h3 : b < 4) (w : World) :
    Calls Try.prog 19 #[.int .i64 4, .int .i64 n, .int .i64 b] w fun e w' => e = .returned (.int .u32 (fieldsN 4 n b : Nat)) ∧ w = w' := by
  have hf : bits .or .u32 ((b : Int) * 65536) (bits .or .u32 ((n : Int) - 1) 56 * 1024 % 4294967296) = ((fieldsN 4 n b : Nat) : Int) := by
    have := List.all_eq_true.1 chkF_4 n (List.mem_range.2 h2)
    simp only [Bool.or_eq_true, decide_eq_true_eq] at this
    rcases this with h | h
    · omega
    · have := List.all_eq_true.1 h b (List.mem_range.2 h3)
      simpa using this
  have HF := Lib.hid hf
  clear hf
  go_enter Try.func19, Try.ntmps19
  go_wp2
  go_ret
  exact ⟨ret_int HF.out, rfl⟩
theorem chkF_8 : ((List.range 8).all fun n => decide (n = 0) || (List.range 8).all fun b => bits .or .u32 (((b : Nat) : Int) * 65536) (bits .or .u32 (((n : Nat) : Int) - 1) 48 * 1024 % 4294967296) == ((fieldsN 8 n b : Nat) : Int)) = true := by decide +kernel
theorem fields_8 (n b : Nat) (h1 : 1 ≤ n) (h2 : n < 8) (h3 : b < 8) (w : World) :
    Calls Try.prog 19 #[.int .i64 8, .int .i64 n, .int .i64 b] w fun e w' => e = .returned (.int .u32 (fieldsN 8 n b : Nat)) ∧ w = w' := by
  have hf : bits .or .u32 ((b : Int) * 65536) (bits .or .u32 ((n : Int) - 1) 48 * 1024 % 4294967296) = ((fieldsN 8 n b : Nat) : Int) := by
    have := List.all_eq_true.1 chkF_8 n (List.mem_range.2 h2)
    simp only [Bool.or_eq_true, decide_eq_true_eq] at this
    rcases this with h | h
    · omega
    · have := List.all_eq_true.1 h b (List.mem_range.2 h3)
      simpa using this
  have HF := Lib.hid hf
  clear hf
  go_enter Try.func19, Try.ntmps19
  go_wp2
  go_ret
  exact ⟨ret_int HF.out, rfl⟩
theorem chkF_16 : ((List.range 16).all fun n => decide (n = 0) || (List.range 16).all fun b => bits .or .u32 (((b : Nat) : Int) * 65536) (bits .or .u32 (((n : Nat) : Int) - 1) 32 * 1024 % 4294967296) == ((fieldsN 16 n b : Nat) : Int)) = true := by decide +kernel
theorem fields_16 (n b : Nat) (h1 : 1 ≤ n) (h2 : n < 16) (h3 : b < 16) (w : World) :
    Calls Try.prog 19 #[.int .i64 16, .int .i64 n, .int .i64 b] w fun e w' => e = .returned (.int .u32 (fieldsN 16 n b : Nat)) ∧ w = w' := by
  have hf : bits .or .u32 ((b : Int) * 65536) (bits .or .u32 ((n : Int) - 1) 32 * 1024 % 4294967296) = ((fieldsN 16 n b : Nat) : Int) := by
    have := List.all_eq_true.1 chkF_16 n (List.mem_range.2 h2)
    simp only [Bool.or_eq_true, decide_eq_true_eq] at this
    rcases this with h | h
    · omega
    · have := List.all_eq_true.1 h b (List.mem_range.2 h3)
      simpa using this
  have HF := Lib.hid hf
  clear hf
  go_enter Try.func19, Try.ntmps19
  go_wp2
  go_ret
  exact ⟨ret_int HF.out, rfl⟩
theorem chkF_32 : ((List.range 32).all fun n => decide (n = 0) || (List.range 32).all fun b => bits .or .u32 (((b : Nat) : Int) * 65536) ((((n : Nat) : Int) - 1) * 1024) == ((fieldsN 32 n b : Nat) : Int)) = true := by decide +kernel
theorem fields_32 (n b : Nat) (h1 : 1 ≤ n) (h2 : n < 32) (h3 : b < 32) (w : World) :
    Calls Try.prog 19 #[.int .i64 32, .int .i64 n, .int .i64 b] w fun e w' => e = .returned (.int .u32 (fieldsN 32 n b : Nat)) ∧ w = w' := by
  have hf : bits .or .u32 ((b : Int) * 65536) (((n : Int) - 1) * 1024) = ((fieldsN 32 n b : Nat) : Int) := by
    have := List.all_eq_true.1 chkF_32 n (List.mem_range.2 h2)
    simp only [Bool.or_eq_true, decide_eq_true_eq] at this
    rcases this with h | h
    · omega
    · have := List.all_eq_true.1 h b (List.mem_range.2 h3)
      simpa using this
  have HF := Lib.hid hf
  clear hf
  go_enter Try.func19, Try.ntmps19
  go_wp2
  go_ret
  exact ⟨ret_int HF.out, rfl⟩
theorem chkF_64 : ((List.range 64).all fun n => decide (n = 0) || (List.range 64).all fun b => bits .or .u32 (bits .or .u32 4194304 (((b : Nat) : Int) * 65536)) ((((n : Nat) : Int) - 1) * 1024) == ((fieldsN 64 n b : Nat) : Int)) = true := by decide +kernel
theorem fields_64 (n b : Nat) (h1 : 1 ≤ n) (h2 : n < 64) (h3 : b < 64) (w : World) :
    Calls Try.prog 19 #[.int .i64 64, .int .i64 n, .int .i64 b] w fun e w' => e = .returned (.int .u32 (fieldsN 64 n b : Nat)) ∧ w = w' := by
  have hf : bits .or .u32 (bits .or .u32 4194304 ((b : Int) * 65536)) (((n : Int) - 1) * 1024) = ((fieldsN 64 n b : Nat) : Int) := by
    have := List.all_eq_true.1 chkF_64 n (List.mem_range.2 h2)
    simp only [Bool.or_eq_true, decide_eq_true_eq] at this
    rcases this with h | h
    · omega
    · have := List.all_eq_true.1 h b (List.mem_range.2 h3)
      simpa using this
  have HF := Lib.hid hf
  clear hf
  go_enter Try.func19, Try.ntmps19
  go_wp2
  go_ret
  exact ⟨ret_int HF.out, rfl⟩
theorem fields_any (p n b : Nat) (hm : Pl.IsMade p n b) (w : World) :
    Calls Try.prog 19 #[.int .i64 p, .int .i64 n, .int .i64 b] w fun e w' => e = .returned (.int .u32 (fieldsN p n b : Nat)) ∧ w = w' := by
  obtain ⟨hp, h1, h2, h3⟩ := hm
  simp only [Pl.periods, List.mem_cons, List.not_mem_nil, or_false] at hp
  rcases hp with rfl | rfl | rfl | rfl | rfl | rfl
  · exact fields_2 n b h1 h2 h3 w
  · exact fields_4 n b h1 h2 h3 w
  · exact fields_8 n b h1 h2 h3 w
  · exact fields_16 n b h1 h2 h3 w
  · exact fields_32 n b h1 h2 h3 w
  · exact fields_64 n b h1 h2 h3 w

theorem fnEncode_walk (a0 : Int) (a1 : Int) (a2 : Int) (_w0 : (Lit.int .i64 a0).wf = true) (_w1 : (Lit.int .i64 a1).wf = true) (_w2 : (Lit.int .i64 a2).wf = true) (w : World) :
    Calls Try.prog 9 #[.int .i64 a0, .int .i64 a1, .int .i64 a2] w fun e w' => e = .returned (.bool true) ∧ Grown w w' := by
  by_cases h : MadeZ a0 a1 a2
  · have H := Lib.hid h
    obtain ⟨p, n, b, rfl, rfl, rfl, hm⟩ := madeZ_nat h
    clear h
    have HM := Lib.hid hm; clear hm
    go_enter Try.func9, Try.ntmps9
    go_wp2_with fail
    refine (ismade_yes _ _ _ H.out _).mono ?_
    rintro e w' ⟨rfl, rfl⟩
    go_wp2_with fail
    refine (made_any p n b _ rfl HM.out.1 HM.out.2.2.1 HM.out.2.2.2 _).mono ?_
    rintro e w' ⟨rfl, rfl⟩
    go_wp2_with fail
    refine (iencode_any _ _ p n b rfl HM.out (.inl rfl) _).mono ?_
    rintro e w' ⟨rfl, rfl⟩
    go_wp2_with fail
    refine (fields_any p n b HM.out _).mono ?_
    rintro e w' ⟨rfl, rfl⟩
    go_wp2
    go_ret
    exact ⟨rfl, Grown.refl _⟩
  · have H := Lib.hid h; clear h
    go_enter Try.func9, Try.ntmps9
    go_wp2_with fail
    refine (ismade_no _ _ _ H.out _).mono ?_
    rintro e w' ⟨rfl, rfl⟩
    go_wp2_with fail
    go_ret
    exact ⟨rfl, Grown.refl _⟩

theorem fnEncodeModes_walk (a0 : Int) (a1 : Int) (a2 : Int) (_w0 : (Lit.int .i64 a0).wf = true) (_w1 : (Lit.int .i64 a1).wf = true) (_w2 : (Lit.int .i64 a2).wf = true) (w : World) :
    Calls Try.prog 10 #[.int .i64 a0, .int .i64 a1, .int .i64 a2] w fun e w' => e = .returned (.bool true) ∧ Grown w w' := by
  by_cases h : MadeZ a0 a1 a2
  · have H := Lib.hid h
    by_cases h32 : 32 < a0
    · clear h
      go_enter Try.func10, Try.ntmps10
      go_wp2_with fail
      refine (ismade_yes _ _ _ H.out _).mono ?_
      rintro e w' ⟨rfl, rfl⟩
      go_wp2_with fail
      go_ret
      exact ⟨rfl, Grown.refl _⟩
    obtain ⟨p, n, b, rfl, rfl, rfl, hm⟩ := madeZ_nat h
    clear h
    have HM := Lib.hid hm; clear hm
    have hp := Lib.hid (show p ≤ 32 by omega)
    go_enter Try.func10, Try.ntmps10
    go_wp2_with fail
    refine (ismade_yes _ _ _ H.out _).mono ?_
    rintro e w' ⟨rfl, rfl⟩
    go_wp2_with fail
    refine (made_any p n b _ rfl HM.out.1 HM.out.2.2.1 HM.out.2.2.2 _).mono ?_
    rintro e w' ⟨rfl, rfl⟩
    go_wp2_with fail
    refine (iencode_any _ _ p n b rfl HM.out (.inr ⟨rfl, hp.out⟩) _).mono ?_
    rintro e w' ⟨rfl, rfl⟩
    go_wp2_with fail
    refine (iencode_any _ _ p n b rfl HM.out (.inl rfl) _).mono ?_
    rintro e w' ⟨rfl, rfl⟩
    go_wp2_with fail
    refine (iencode_any _ _ p n b rfl HM.out (.inr ⟨rfl, hp.out⟩) _).mono ?_
    rintro e w' ⟨rfl, rfl⟩
    go_wp2_with fail
    refine (fields_any p n b HM.out _).mono ?_
    rintro e w' ⟨rfl, rfl⟩
    go_wp2
    go_ret
    exact ⟨rfl, Grown.refl _⟩
  · have H := Lib.hid h; clear h
    go_enter Try.func10, Try.ntmps10
    go_wp2_with fail
    refine (ismade_no _ _ _ H.out _).mono ?_
    rintro e w' ⟨rfl, rfl⟩
    go_wp2_with fail
    go_ret
    exact ⟨rfl, Grown.refl _⟩

def f16 (c : Nat) : Int := bits .and .u32 ((c : Int) / 65536) 63
def fNot (c : Nat) : Int := bits .andNot .u32 (c : Int) 4128768
theorem chkT : Pl.allMade (fun p n b => f16 (fieldsN p n b) == (b : Int) && fNot (fieldsN p n b) == fNot (fieldsN p n ((b + 1) % p)) && f16 (fieldsN p n ((b + 1) % p)) == (((b + 1) % p : Nat) : Int)) = true := by decide +kernel

theorem fnEncodeTurned_main (p n b c d e1 : Nat) (H : Hid (MadeZ p n b)) (HM : Hid (Pl.IsMade p n b)) (HM2 : Hid (Pl.IsMade p n e1)) (hp : 2 ≤ p) (hp2 : p ≤ 64) (hb : b < p) (he : ((b : Int) + 1) % (p : Int) = (e1 : Int)) (he2 : e1 ≤ 63)
    (hc : Hid (fieldsN p n b = c)) (hd : Hid (fieldsN p n e1 = d))
    (t1 : bits .and .u32 ((c : Int) / 65536) 63 = (b : Int)) (t2 : bits .and .u32 ((d : Int) / 65536) 63 = (e1 : Int)) (t3 : bits .andNot .u32 (c : Int) 4128768 = bits .andNot .u32 (d : Int) 4128768) (w : World) :
    Calls Try.prog 13 #[.int .i64 p, .int .i64 n, .int .i64 b] w fun e w' => e = .returned (.bool true) ∧ Grown w w' := by
  go_enter Try.func13, Try.ntmps13
  go_wp2_with fail
  refine (ismade_yes _ _ _ H.out _).mono ?_
  rintro e w' ⟨rfl, rfl⟩
  go_wp2_with fail
  refine (made_any p n b _ rfl HM.out.1 HM.out.2.2.1 HM.out.2.2.2 _).mono ?_
  rintro e w' ⟨rfl, rfl⟩
  go_wp2_with fail
  refine (iencode_any _ _ p n b rfl HM.out (.inl rfl) _).mono ?_
  rw [hc.out]
  rintro e w' ⟨rfl, rfl⟩
  go_wp2_with fail
  refine (made_any p n e1 _ rfl HM2.out.1 HM2.out.2.2.1 HM2.out.2.2.2 _).mono ?_
  rintro e w' ⟨rfl, rfl⟩
  go_wp2_with fail
  refine (iencode_any _ _ p n e1 rfl HM2.out (.inl rfl) _).mono ?_
  rw [hd.out]
  rintro e w' ⟨rfl, rfl⟩
  go_wp2
  go_ret
  exact ⟨rfl, Grown.refl _⟩

theorem fnEncodeTurned_walk (a0 : Int) (a1 : Int) (a2 : Int) (_w0 : (Lit.int .i64 a0).wf = true) (_w1 : (Lit.int .i64 a1).wf = true) (_w2 : (Lit.int .i64 a2).wf = true) (w : World) :
    Calls Try.prog 13 #[.int .i64 a0, .int .i64 a1, .int .i64 a2] w fun e w' => e = .returned (.bool true) ∧ Grown w w' := by
  by_cases h : MadeZ a0 a1 a2
  · have H := Lib.hid h
    obtain ⟨p, n, b, rfl, rfl, rfl, hm⟩ := madeZ_nat h
    clear h
    have hT := Pl.allMade_at chkT hm
    simp only [Bool.and_eq_true, beq_iff_eq] at hT
    obtain ⟨hp, h1, h2, h3⟩ := hm
    obtain ⟨q1, q2, _⟩ := per_fuel hp
    exact fnEncodeTurned_main p n b _ _ ((b + 1) % p) H (Lib.hid ⟨hp, h1, h2, h3⟩) (Lib.hid ⟨hp, h1, h2, Nat.mod_lt _ (by omega)⟩) q1 q2 h3 rfl (by have := Nat.mod_lt (b + 1) (show 0 < p by omega); omega) (Lib.hid rfl) (Lib.hid rfl) hT.1.1 hT.2 hT.1.2 w
  · have H := Lib.hid h; clear h
    go_enter Try.func13, Try.ntmps13
    go_wp2_with fail
    refine (ismade_no _ _ _ H.out _).mono ?_
    rintro e w' ⟨rfl, rfl⟩
    go_wp2_with fail
    go_ret
    exact ⟨rfl, Grown.refl _⟩
end Go.Proofs.Ytnohdfdjhhmmdaa
