/- The contracts of isbitcon and of the thin functions round it. -/
import Derived.Test.YtnohdfdjhhmmdaaBitcon
import Derived.Test.YtnohdfdjhhmmdaaOnesWalks
namespace Go.Proofs.Ytnohdfdjhhmmdaa
open Go.RowKit

theorem or_nat (a b : Nat) (ha : a < 18446744073709551616) (hb : b < 18446744073709551616) : bits .or .u64 (a : Int) (b : Int) = ((a ||| b : Nat) : Int) := u64_or_nat a b ha hb

theorem rot_form (k x : Nat) (c d : Int) (hc : c = ((2 ^ k : Nat) : Int)) (hd : d = ((2 ^ (64 - k) : Nat) : Int)) (hx : x < 18446744073709551616) :
    bits .or .u64 ((x : Int) / c) (IntKind.u64.wrap ((x : Int) * d)) = ((Pl.rot k x : Nat) : Int) := by
  have e1 : (x : Int) / c = ((x >>> k : Nat) : Int) := by rw [hc, Nat.shiftRight_eq_div_pow]; rfl
  have e2 : IntKind.u64.wrap ((x : Int) * d) = (((x <<< (64 - k)) % 2 ^ 64 : Nat) : Int) := by
    rw [hd, ← Int.natCast_mul, u64_nat, Nat.shiftLeft_eq]
  rw [e1, e2, or_nat _ _ (Nat.lt_of_le_of_lt (by rw [Nat.shiftRight_eq_div_pow]; exact Nat.div_le_self _ _) hx) (Nat.mod_lt _ (by decide))]
  rfl

theorem ne_nat (a b : Nat) : ((a : Int) != (b : Int)) = (a != b) := by
  rw [Bool.eq_iff_iff]; simp only [bne_iff_ne, ne_eq]; omega

theorem rot32_ne (x : Nat) (hx : x < 18446744073709551616) : ((x : Int) != bits .or .u64 ((x : Int) / 4294967296) (IntKind.u64.wrap ((x : Int) * 4294967296))) = (x != Pl.rot 32 x) := by
  rw [rot_form 32 x _ _ (by decide) (by decide) hx, ne_nat]
theorem rot16_ne (x : Nat) (hx : x < 18446744073709551616) : ((x : Int) != bits .or .u64 ((x : Int) / 65536) (IntKind.u64.wrap ((x : Int) * 281474976710656))) = (x != Pl.rot 16 x) := by
  rw [rot_form 16 x _ _ (by decide) (by decide) hx, ne_nat]
theorem rot8_ne (x : Nat) (hx : x < 18446744073709551616) : ((x : Int) != bits .or .u64 ((x : Int) / 256) (IntKind.u64.wrap ((x : Int) * 72057594037927936))) = (x != Pl.rot 8 x) := by
  rw [rot_form 8 x _ _ (by decide) (by decide) hx, ne_nat]
theorem rot4_ne (x : Nat) (hx : x < 18446744073709551616) : ((x : Int) != bits .or .u64 ((x : Int) / 16) (IntKind.u64.wrap ((x : Int) * 1152921504606846976))) = (x != Pl.rot 4 x) := by
  rw [rot_form 4 x _ _ (by decide) (by decide) hx, ne_nat]

theorem sext32_form (x : Nat) : IntKind.u64.wrap (wrap64 (wrap32 (x : Int))) = ((Pl.sext 32 x : Nat) : Int) := by
  rw [IntKind.wrap_u64]
  unfold wrap64 wrap32 Pl.sext
  simp only [Nat.reducePow, Nat.reduceSub]
  split <;> omega
theorem sext16_form (x : Nat) : IntKind.u64.wrap (wrap64 (IntKind.i16.wrap (x : Int))) = ((Pl.sext 16 x : Nat) : Int) := by
  have e : IntKind.i16.wrap (x : Int) = ((x : Int) + 32768) % 65536 - 32768 := by
    simp [IntKind.wrap, IntKind.bits, IntKind.signed]
    split <;> omega
  rw [IntKind.wrap_u64, e]
  unfold wrap64 Pl.sext
  simp only [Nat.reducePow, Nat.reduceSub]
  split <;> omega
theorem sext8_form (x : Nat) : IntKind.u64.wrap (wrap64 (IntKind.i8.wrap (x : Int))) = ((Pl.sext 8 x : Nat) : Int) := by
  have e : IntKind.i8.wrap (x : Int) = ((x : Int) + 128) % 256 - 128 := by
    simp [IntKind.wrap, IntKind.bits, IntKind.signed]
    split <;> omega
  rw [IntKind.wrap_u64, e]
  unfold wrap64 Pl.sext
  simp only [Nat.reducePow, Nat.reduceSub]
  split <;> omega

theorem ring_not (s : Nat) : Pl.ringB s = (Pl.onesB 64 s || Pl.onesB 64 (18446744073709551615 - s)) := by
  have e : (2 : Nat) ^ 64 - 1 = 18446744073709551615 := by decide
  unfold Pl.ringB
  rw [e]
theorem isB_64 (x : Nat) (h : ¬ (x = 2 ^ 64 - 1 ∨ x = 0)) (h1 : x ≠ Pl.rot 32 x) : Pl.isB x = Pl.ringB x := by
  unfold Pl.isB; rw [if_neg h, if_pos h1]
theorem isB_32 (x : Nat) (h : ¬ (x = 2 ^ 64 - 1 ∨ x = 0)) (h1 : ¬ x ≠ Pl.rot 32 x) (h2 : x ≠ Pl.rot 16 x) : Pl.isB x = Pl.ringB (Pl.sext 32 x) := by
  unfold Pl.isB; rw [if_neg h, if_neg h1, if_pos h2]
theorem isB_16 (x : Nat) (h : ¬ (x = 2 ^ 64 - 1 ∨ x = 0)) (h1 : ¬ x ≠ Pl.rot 32 x) (h2 : ¬ x ≠ Pl.rot 16 x) (h3 : x ≠ Pl.rot 8 x) : Pl.isB x = Pl.ringB (Pl.sext 16 x) := by
  unfold Pl.isB; rw [if_neg h, if_neg h1, if_neg h2, if_pos h3]
theorem isB_8 (x : Nat) (h : ¬ (x = 2 ^ 64 - 1 ∨ x = 0)) (h1 : ¬ x ≠ Pl.rot 32 x) (h2 : ¬ x ≠ Pl.rot 16 x) (h3 : ¬ x ≠ Pl.rot 8 x) (h4 : x ≠ Pl.rot 4 x) : Pl.isB x = Pl.ringB (Pl.sext 8 x) := by
  unfold Pl.isB; rw [if_neg h, if_neg h1, if_neg h2, if_neg h3, if_pos h4]
theorem isB_4 (x : Nat) (h : ¬ (x = 2 ^ 64 - 1 ∨ x = 0)) (h1 : ¬ x ≠ Pl.rot 32 x) (h2 : ¬ x ≠ Pl.rot 16 x) (h3 : ¬ x ≠ Pl.rot 8 x) (h4 : ¬ x ≠ Pl.rot 4 x) : Pl.isB x = true := by
  unfold Pl.isB; rw [if_neg h, if_neg h1, if_neg h2, if_neg h3, if_neg h4]

theorem bne_t {a b : Nat} {p : Bool} (h : p = (a != b)) (g : a ≠ b) : p = true := h.trans (by simpa using g)
theorem bne_f {a b : Nat} {p : Bool} (h : p = (a != b)) (g : ¬ a ≠ b) : p = false := h.trans (by simpa using g)

set_option maxHeartbeats 400000 in
theorem bit_64 (x : Nat) (hx : Hid (x < 18446744073709551616)) (e0 : ((x : Int) == 18446744073709551615) = false) (e1 : ((x : Int) == 0) = false)
    (r1 : ((x : Int) != bits .or .u64 ((x : Int) / 4294967296) (IntKind.u64.wrap ((x : Int) * 4294967296))) = true) (w : World) :
    Calls Try.prog 27 #[.int .u64 x] w fun e w' => e = .returned (.bool (Pl.ringB x)) ∧ w = w' := by
  have hsg := u64_unsigned
  obtain ⟨n, hn⟩ : ∃ n, n = 18446744073709551615 - x := ⟨_, rfl⟩
  have hnot : bits .xor .u64 IntKind.u64.max (x : Int) = (n : Int) := by rw [hn]; exact not_max x hx.out
  have HN := Lib.hid hn; clear hn
  have hl := Lib.hid (show n < 18446744073709551616 by rw [HN.out]; omega)
  have hr := Lib.hid (show Pl.ringB x = (Pl.onesB 64 x || Pl.onesB 64 n) by rw [HN.out]; exact ring_not x)
  cases h1 : Pl.onesB 64 x
  · have H1 := Lib.hid h1; clear h1
    go_enter Try.func27, Try.ntmps27
    go_wp2_with fail
    refine (seq_any _ x rfl hx.out _).mono ?_
    rw [H1.out]
    rintro e w' ⟨rfl, rfl⟩
    go_wp2_with fail
    refine (seq_any _ n rfl hl.out _).mono ?_
    rintro e w' ⟨rfl, rfl⟩
    go_wp2
    go_ret
    exact ⟨ret_bool (by rw [hr.out, H1.out]; simp), rfl⟩
  · have H1 := Lib.hid h1; clear h1
    go_enter Try.func27, Try.ntmps27
    go_wp2_with fail
    refine (seq_any _ x rfl hx.out _).mono ?_
    rw [H1.out]
    rintro e w' ⟨rfl, rfl⟩
    go_wp2
    go_ret
    exact ⟨ret_bool (by rw [hr.out, H1.out]; simp), rfl⟩

set_option maxHeartbeats 400000 in
theorem bit_32 (x s : Nat) (hx : Hid (s < 18446744073709551616)) (hf : IntKind.u64.wrap (wrap64 (wrap32 (x : Int))) = (s : Int)) (e0 : ((x : Int) == 18446744073709551615) = false) (e1 : ((x : Int) == 0) = false)
    (r1 : ((x : Int) != bits .or .u64 ((x : Int) / 4294967296) (IntKind.u64.wrap ((x : Int) * 4294967296))) = false) (r2 : ((x : Int) != bits .or .u64 ((x : Int) / 65536) (IntKind.u64.wrap ((x : Int) * 281474976710656))) = true) (w : World) :
    Calls Try.prog 27 #[.int .u64 x] w fun e w' => e = .returned (.bool (Pl.ringB s)) ∧ w = w' := by
  have hsg := u64_unsigned
  obtain ⟨n, hn⟩ : ∃ n, n = 18446744073709551615 - s := ⟨_, rfl⟩
  have hnot : bits .xor .u64 IntKind.u64.max (s : Int) = (n : Int) := by rw [hn]; exact not_max s hx.out
  have HN := Lib.hid hn; clear hn
  have hl := Lib.hid (show n < 18446744073709551616 by rw [HN.out]; omega)
  have hr := Lib.hid (show Pl.ringB s = (Pl.onesB 64 s || Pl.onesB 64 n) by rw [HN.out]; exact ring_not s)
  cases h1 : Pl.onesB 64 s
  · have H1 := Lib.hid h1; clear h1
    go_enter Try.func27, Try.ntmps27
    go_wp2_with fail
    refine (seq_any _ s rfl hx.out _).mono ?_
    rw [H1.out]
    rintro e w' ⟨rfl, rfl⟩
    go_wp2_with fail
    refine (seq_any _ n rfl hl.out _).mono ?_
    rintro e w' ⟨rfl, rfl⟩
    go_wp2
    go_ret
    exact ⟨ret_bool (by rw [hr.out, H1.out]; simp), rfl⟩
  · have H1 := Lib.hid h1; clear h1
    go_enter Try.func27, Try.ntmps27
    go_wp2_with fail
    refine (seq_any _ s rfl hx.out _).mono ?_
    rw [H1.out]
    rintro e w' ⟨rfl, rfl⟩
    go_wp2
    go_ret
    exact ⟨ret_bool (by rw [hr.out, H1.out]; simp), rfl⟩

set_option maxHeartbeats 400000 in
theorem bit_16 (x s : Nat) (hx : Hid (s < 18446744073709551616)) (hf : IntKind.u64.wrap (wrap64 (IntKind.i16.wrap (x : Int))) = (s : Int)) (e0 : ((x : Int) == 18446744073709551615) = false) (e1 : ((x : Int) == 0) = false)
    (r1 : ((x : Int) != bits .or .u64 ((x : Int) / 4294967296) (IntKind.u64.wrap ((x : Int) * 4294967296))) = false) (r2 : ((x : Int) != bits .or .u64 ((x : Int) / 65536) (IntKind.u64.wrap ((x : Int) * 281474976710656))) = false) (r3 : ((x : Int) != bits .or .u64 ((x : Int) / 256) (IntKind.u64.wrap ((x : Int) * 72057594037927936))) = true) (w : World) :
    Calls Try.prog 27 #[.int .u64 x] w fun e w' => e = .returned (.bool (Pl.ringB s)) ∧ w = w' := by
  have hsg := u64_unsigned
  obtain ⟨n, hn⟩ : ∃ n, n = 18446744073709551615 - s := ⟨_, rfl⟩
  have hnot : bits .xor .u64 IntKind.u64.max (s : Int) = (n : Int) := by rw [hn]; exact not_max s hx.out
  have HN := Lib.hid hn; clear hn
  have hl := Lib.hid (show n < 18446744073709551616 by rw [HN.out]; omega)
  have hr := Lib.hid (show Pl.ringB s = (Pl.onesB 64 s || Pl.onesB 64 n) by rw [HN.out]; exact ring_not s)
  cases h1 : Pl.onesB 64 s
  · have H1 := Lib.hid h1; clear h1
    go_enter Try.func27, Try.ntmps27
    go_wp2_with fail
    refine (seq_any _ s rfl hx.out _).mono ?_
    rw [H1.out]
    rintro e w' ⟨rfl, rfl⟩
    go_wp2_with fail
    refine (seq_any _ n rfl hl.out _).mono ?_
    rintro e w' ⟨rfl, rfl⟩
    go_wp2
    go_ret
    exact ⟨ret_bool (by rw [hr.out, H1.out]; simp), rfl⟩
  · have H1 := Lib.hid h1; clear h1
    go_enter Try.func27, Try.ntmps27
    go_wp2_with fail
    refine (seq_any _ s rfl hx.out _).mono ?_
    rw [H1.out]
    rintro e w' ⟨rfl, rfl⟩
    go_wp2
    go_ret
    exact ⟨ret_bool (by rw [hr.out, H1.out]; simp), rfl⟩

set_option maxHeartbeats 400000 in
theorem bit_8 (x s : Nat) (hx : Hid (s < 18446744073709551616)) (hf : IntKind.u64.wrap (wrap64 (IntKind.i8.wrap (x : Int))) = (s : Int)) (e0 : ((x : Int) == 18446744073709551615) = false) (e1 : ((x : Int) == 0) = false)
    (r1 : ((x : Int) != bits .or .u64 ((x : Int) / 4294967296) (IntKind.u64.wrap ((x : Int) * 4294967296))) = false) (r2 : ((x : Int) != bits .or .u64 ((x : Int) / 65536) (IntKind.u64.wrap ((x : Int) * 281474976710656))) = false) (r3 : ((x : Int) != bits .or .u64 ((x : Int) / 256) (IntKind.u64.wrap ((x : Int) * 72057594037927936))) = false) (r4 : ((x : Int) != bits .or .u64 ((x : Int) / 16) (IntKind.u64.wrap ((x : Int) * 1152921504606846976))) = true) (w : World) :
    Calls Try.prog 27 #[.int .u64 x] w fun e w' => e = .returned (.bool (Pl.ringB s)) ∧ w = w' := by
  have hsg := u64_unsigned
  obtain ⟨n, hn⟩ : ∃ n, n = 18446744073709551615 - s := ⟨_, rfl⟩
  have hnot : bits .xor .u64 IntKind.u64.max (s : Int) = (n : Int) := by rw [hn]; exact not_max s hx.out
  have HN := Lib.hid hn; clear hn
  have hl := Lib.hid (show n < 18446744073709551616 by rw [HN.out]; omega)
  have hr := Lib.hid (show Pl.ringB s = (Pl.onesB 64 s || Pl.onesB 64 n) by rw [HN.out]; exact ring_not s)
  cases h1 : Pl.onesB 64 s
  · have H1 := Lib.hid h1; clear h1
    go_enter Try.func27, Try.ntmps27
    go_wp2_with fail
    refine (seq_any _ s rfl hx.out _).mono ?_
    rw [H1.out]
    rintro e w' ⟨rfl, rfl⟩
    go_wp2_with fail
    refine (seq_any _ n rfl hl.out _).mono ?_
    rintro e w' ⟨rfl, rfl⟩
    go_wp2
    go_ret
    exact ⟨ret_bool (by rw [hr.out, H1.out]; simp), rfl⟩
  · have H1 := Lib.hid h1; clear h1
    go_enter Try.func27, Try.ntmps27
    go_wp2_with fail
    refine (seq_any _ s rfl hx.out _).mono ?_
    rw [H1.out]
    rintro e w' ⟨rfl, rfl⟩
    go_wp2
    go_ret
    exact ⟨ret_bool (by rw [hr.out, H1.out]; simp), rfl⟩

theorem bit_4 (x : Nat) (e0 : ((x : Int) == 18446744073709551615) = false) (e1 : ((x : Int) == 0) = false)
    (r1 : ((x : Int) != bits .or .u64 ((x : Int) / 4294967296) (IntKind.u64.wrap ((x : Int) * 4294967296))) = false) (r2 : ((x : Int) != bits .or .u64 ((x : Int) / 65536) (IntKind.u64.wrap ((x : Int) * 281474976710656))) = false) (r3 : ((x : Int) != bits .or .u64 ((x : Int) / 256) (IntKind.u64.wrap ((x : Int) * 72057594037927936))) = false) (r4 : ((x : Int) != bits .or .u64 ((x : Int) / 16) (IntKind.u64.wrap ((x : Int) * 1152921504606846976))) = false) (w : World) :
    Calls Try.prog 27 #[.int .u64 x] w fun e w' => e = .returned (.bool true) ∧ w = w' := by
  go_enter Try.func27, Try.ntmps27
  go_wp2_with fail
  go_ret
  exact ⟨rfl, rfl⟩

theorem isbitcon_any (z : Int) (x : Nat) (hz : z = x) (hx : x < 18446744073709551616) (w : World) :
    Calls Try.prog 27 #[.int .u64 z] w fun e w' => e = .returned (.bool (Pl.isB x)) ∧ w = w' := by
  subst hz
  by_cases c0 : x = 2 ^ 64 - 1 ∨ x = 0
  · have e : Pl.isB x = false := by unfold Pl.isB; rw [if_pos c0]
    rw [e]
    clear e
    rcases c0 with rfl | rfl
    · go_enter Try.func27, Try.ntmps27
      go_wp2_with fail
      go_ret
      exact ⟨rfl, rfl⟩
    · go_enter Try.func27, Try.ntmps27
      go_wp2_with fail
      go_ret
      exact ⟨rfl, rfl⟩
  have e0 : ((x : Int) == 18446744073709551615) = false := by
    have h := fun e => c0 (.inl e)
    simp; omega
  have e1 : ((x : Int) == 0) = false := by
    have h := fun e => c0 (.inr e)
    simp; omega
  by_cases c1 : x ≠ Pl.rot 32 x
  · rw [isB_64 x c0 c1]
    exact bit_64 x (Lib.hid hx) e0 e1 (bne_t (rot32_ne x hx) c1) w
  by_cases c2 : x ≠ Pl.rot 16 x
  · rw [isB_32 x c0 c1 c2]
    exact bit_32 x _ (Lib.hid (Pl.sext_lt 32 x (by omega))) (sext32_form x) e0 e1 (bne_f (rot32_ne x hx) c1) (bne_t (rot16_ne x hx) c2) w
  by_cases c3 : x ≠ Pl.rot 8 x
  · rw [isB_16 x c0 c1 c2 c3]
    exact bit_16 x _ (Lib.hid (Pl.sext_lt 16 x (by omega))) (sext16_form x) e0 e1 (bne_f (rot32_ne x hx) c1) (bne_f (rot16_ne x hx) c2) (bne_t (rot8_ne x hx) c3) w
  by_cases c4 : x ≠ Pl.rot 4 x
  · rw [isB_8 x c0 c1 c2 c3 c4]
    exact bit_8 x _ (Lib.hid (Pl.sext_lt 8 x (by omega))) (sext8_form x) e0 e1 (bne_f (rot32_ne x hx) c1) (bne_f (rot16_ne x hx) c2) (bne_f (rot8_ne x hx) c3) (bne_t (rot4_ne x hx) c4) w
  · rw [isB_4 x c0 c1 c2 c3 c4]
    exact bit_4 x e0 e1 (bne_f (rot32_ne x hx) c1) (bne_f (rot16_ne x hx) c2) (bne_f (rot8_ne x hx) c3) (bne_f (rot4_ne x hx) c4) w

theorem bitcon_any (z : Int) (x : Nat) (hz : z = x) (hx : x < 18446744073709551616) (w : World) :
    Calls Try.prog 14 #[.int .u64 z] w fun e w' => e = .returned (.bool (Pl.isB x)) ∧ w = w' := by
  have HZ := Lib.hid hz; clear hz
  go_enter Try.func14, Try.ntmps14
  go_wp2_with (first | (go_at_call 27; refine (isbitcon_any _ x HZ.out hx _).mono ?_; rintro e w' ⟨rfl, rfl⟩) | go_in)
  go_ret
  exact ⟨rfl, rfl⟩
end Go.Proofs.Ytnohdfdjhhmmdaa
