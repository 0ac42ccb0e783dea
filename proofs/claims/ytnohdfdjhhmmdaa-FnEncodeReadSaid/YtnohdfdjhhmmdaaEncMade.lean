/- The contract of bitconEncode at every mask, and of the thin functions round it (written by wip/gen/enc2.py). -/
import Derived.Test.YtnohdfdjhhmmdaaEncode
namespace Go.Proofs.Ytnohdfdjhhmmdaa
open Go.RowKit
set_option linter.unusedVariables false

theorem rot2_ne (x : Nat) (hx : x < 18446744073709551616) : ((x : Int) != bits .or .u64 ((x : Int) / 4) (IntKind.u64.wrap ((x : Int) * 4611686018427387904))) = (x != Pl.rot 2 x) := by
  rw [rot_form 2 x _ _ (by decide) (by decide) hx, ne_nat]
theorem sext4_form (x : Nat) : IntKind.u64.wrap (wrap64 (IntKind.u64.wrap ((x : Int) * 1152921504606846976)) / 1152921504606846976) = ((Pl.sext 4 x : Nat) : Int) := by
  rw [IntKind.wrap_u64, IntKind.wrap_u64]
  unfold wrap64 Pl.sext
  simp only [Nat.reducePow, Nat.reduceSub]
  split <;> omega
theorem sext2_form (x : Nat) : IntKind.u64.wrap (wrap64 (IntKind.u64.wrap ((x : Int) * 4611686018427387904)) / 4611686018427387904) = ((Pl.sext 2 x : Nat) : Int) := by
  rw [IntKind.wrap_u64, IntKind.wrap_u64]
  unfold wrap64 Pl.sext
  simp only [Nat.reducePow, Nat.reduceSub]
  split <;> omega

theorem neg_yes (s : Nat) (hs : s < 18446744073709551616) (h : 9223372036854775808 ≤ s) : decide (wrap64 (s : Int) < 0) = true := by
  rw [decide_eq_true_eq]; unfold wrap64; omega
theorem neg_no (s : Nat) (h : ¬ 9223372036854775808 ≤ s) : decide (wrap64 (s : Int) < 0) = false := by
  rw [decide_eq_false_iff_not]; unfold wrap64; omega
theorem lo_form (x : Nat) (hx : x < 18446744073709551616) : bits .and .u64 (x : Int) 4294967295 = ((x % 4294967296 : Nat) : Int) := by
  have := u64_and_nat x 4294967295 hx (by decide)
  rw [show x &&& 4294967295 = x % 4294967296 from Nat.and_two_pow_sub_one_eq_mod x 32] at this
  exact this
theorem lo_both (x : Nat) (h : (x % 4294967296 ||| x % 4294967296 * 4294967296) = x) : bits .or .u64 (((x % 4294967296 : Nat) : Int) * 4294967296) ((x % 4294967296 : Nat) : Int) = (x : Int) := by
  have e : ((x % 4294967296 : Nat) : Int) * 4294967296 = ((x % 4294967296 * 4294967296 : Nat) : Int) := by omega
  rw [e, or_nat _ _ (by omega) (by omega), Nat.or_comm, h]

theorem code_p {nb m1 : Int} {p n b : Nat} (h : eNeg p n b = false) : eCode nb m1 p n b = encZ nb p (p - 1 : Nat) m1 (2 * p - 1 : Nat) (eA p n b : Nat) ((eB p n b : Nat) - (eA p n b : Nat)) := by
  unfold eCode; rw [h]; rfl
theorem code_n {nb m1 : Int} {p n b : Nat} (h : eNeg p n b = true) : eCode nb m1 p n b = encZ nb p (p - 1 : Nat) m1 (2 * p - 1 : Nat) (eB p n b : Nat) ((p : Int) - ((eB p n b : Nat) - (eA p n b : Nat))) := by
  unfold eCode; rw [h]; rfl

structure EncFacts (p n b : Nat) : Prop where
  low0 : eLow p n b ≠ 0
  t0 : eT p n b ≠ 0
  a64 : eA p n b < 64
  ab : eA p n b < eB p n b
  sl : eS p n b < 18446744073709551616
  bp : eB p n b ≤ (if p = 64 then 63 else if eNeg p n b then p - 1 else p)
  c : eCode (if p = 64 then 4194304 else 0) 63 p n b = (fieldsN p n b : Nat)
  d : p ≠ 64 → eCode 0 31 p n b = (fieldsN p n b : Nat)
  r : rotOk p (Pl.made p n b) = true
  l : p ≠ 64 → (Pl.made p n b % 4294967296 ||| Pl.made p n b % 4294967296 * 4294967296) = Pl.made p n b
  ml : Pl.made p n b < 18446744073709551616

theorem enc_facts {p n b : Nat} (hm : Pl.IsMade p n b) : EncFacts p n b := by
  have hA := Pl.allMade_at chkA hm
  simp only [Bool.and_eq_true, decide_eq_true_eq] at hA
  obtain ⟨⟨⟨⟨⟨h1, h2⟩, h3⟩, h4⟩, h5⟩, h6⟩ := hA
  have hC := Pl.allMade_at chkC hm
  have hD := Pl.allMade_at chkD hm
  have hL := Pl.allMade_at chkL hm
  simp only [Bool.or_eq_true, decide_eq_true_eq, beq_iff_eq] at hC hD hL
  exact ⟨h1, h2, h3, h4, h5, h6, hC, fun h => hD.resolve_left h, Pl.allMade_at chkR hm, fun h => hL.resolve_left h, of_decide_eq_true (Pl.allMade_at Pl.chk_lt hm)⟩

theorem low_form (z : Nat) (hz : z < 18446744073709551616) : bits .and .u64 (z : Int) (IntKind.u64.wrap (-(z : Int))) = ((z &&& (18446744073709551616 - z) : Nat) : Int) := and_neg z hz
theorem low_le (z : Nat) : z &&& (18446744073709551616 - z) ≤ z := Nat.and_le_left
theorem beq_f {a b : Nat} {p : Bool} (h : p = (a != b)) (g : a = b) : p = false := h.trans (by simpa using g)

theorem encm_64_64 (n b : Nat) (F : EncFacts 64 n b) (w : World) :
    Calls Try.prog 28 #[.int .u64 (Pl.made 64 n b), .int .i64 64] w fun e w' => e = .returned (.int .u32 (fieldsN 64 n b : Nat)) ∧ w = w' := by
  have hr := F.r
  have hsl := F.sl
  have hbp := F.bp
  have hc := F.c
  unfold rotOk at hr
  rw [if_pos rfl] at hr
  have r1 : Pl.made 64 n b ≠ Pl.rot 32 (Pl.made 64 n b) := by simpa using hr
  have es : eS 64 n b = Pl.made 64 n b := by unfold eS; rw [if_pos rfl]
  rw [es] at hsl
  rw [if_pos rfl] at hbp hc
  by_cases hn : 9223372036854775808 ≤ Pl.made 64 n b
  · have en : eNeg 64 n b = true := by unfold eNeg; rw [es]; exact decide_eq_true hn
    have ez : eZ 64 n b = 18446744073709551615 - Pl.made 64 n b := by unfold eZ; rw [en, es]; rfl
    have el : eLow 64 n b = (18446744073709551615 - Pl.made 64 n b) &&& (18446744073709551616 - (18446744073709551615 - Pl.made 64 n b)) := by unfold eLow; rw [ez]
    have et : eT 64 n b = ((18446744073709551615 - Pl.made 64 n b) + eLow 64 n b) % 18446744073709551616 := by unfold eT; rw [ez]
    rw [code_n en] at hc
    rw [← hc]
    exact enc_64_n_64 _ _ _ _ _ _ (not_max _ hsl) (neg_yes _ hsl hn) ((low_form _ (by omega)).trans (congrArg Nat.cast el.symm)) ((u64_add _ _).trans (congrArg Nat.cast et.symm)) (bne_t (rot32_ne _ F.ml) r1) (Lib.hid F.low0) (Lib.hid (by rw [el]; have := low_le (18446744073709551615 - Pl.made 64 n b); omega)) (Lib.hid rfl) (Lib.hid F.t0) (Lib.hid (by rw [et]; exact Nat.mod_lt _ (by decide))) (Lib.hid rfl) F.a64 F.ab hbp w
  · have en : eNeg 64 n b = false := by unfold eNeg; rw [es]; exact decide_eq_false hn
    have ez : eZ 64 n b = Pl.made 64 n b := by unfold eZ; rw [en, es]; rfl
    have el : eLow 64 n b = (Pl.made 64 n b) &&& (18446744073709551616 - (Pl.made 64 n b)) := by unfold eLow; rw [ez]
    have et : eT 64 n b = ((Pl.made 64 n b) + eLow 64 n b) % 18446744073709551616 := by unfold eT; rw [ez]
    rw [code_p en] at hc
    rw [← hc]
    exact enc_64_p_64 _ _ _ _ _ (neg_no _ hn) ((low_form _ (by omega)).trans (congrArg Nat.cast el.symm)) ((u64_add _ _).trans (congrArg Nat.cast et.symm)) (bne_t (rot32_ne _ F.ml) r1) (Lib.hid F.low0) (Lib.hid (by rw [el]; have := low_le (Pl.made 64 n b); omega)) (Lib.hid rfl) (Lib.hid F.t0) (Lib.hid (by rw [et]; exact Nat.mod_lt _ (by decide))) (Lib.hid rfl) F.a64 F.ab hbp w

theorem encm_32_64 (n b : Nat) (F : EncFacts 32 n b) (w : World) :
    Calls Try.prog 28 #[.int .u64 (Pl.made 32 n b), .int .i64 64] w fun e w' => e = .returned (.int .u32 (fieldsN 32 n b : Nat)) ∧ w = w' := by
  have hr := F.r
  have hsl := F.sl
  have hbp := F.bp
  have hc := F.c
  unfold rotOk at hr
  rw [if_neg (by decide), if_pos rfl] at hr
  simp only [Bool.and_eq_true, beq_iff_eq, bne_iff_ne, ne_eq] at hr
  obtain ⟨r1, r2⟩ := hr
  have es : eS 32 n b = Pl.sext 32 (Pl.made 32 n b) := by unfold eS; rw [if_neg (by decide)]
  rw [es] at hsl
  rw [if_neg (by decide)] at hbp hc
  by_cases hn : 9223372036854775808 ≤ Pl.sext 32 (Pl.made 32 n b)
  · have en : eNeg 32 n b = true := by unfold eNeg; rw [es]; exact decide_eq_true hn
    have ez : eZ 32 n b = 18446744073709551615 - Pl.sext 32 (Pl.made 32 n b) := by unfold eZ; rw [en, es]; rfl
    have el : eLow 32 n b = (18446744073709551615 - Pl.sext 32 (Pl.made 32 n b)) &&& (18446744073709551616 - (18446744073709551615 - Pl.sext 32 (Pl.made 32 n b))) := by unfold eLow; rw [ez]
    have et : eT 32 n b = ((18446744073709551615 - Pl.sext 32 (Pl.made 32 n b)) + eLow 32 n b) % 18446744073709551616 := by unfold eT; rw [ez]
    rw [en] at hbp
    rw [code_n en] at hc
    rw [← hc]
    exact enc_32_n_64 _ _ _ _ _ _ _ (sext32_form _) (not_max _ hsl) (neg_yes _ hsl hn) ((low_form _ (by omega)).trans (congrArg Nat.cast el.symm)) ((u64_add _ _).trans (congrArg Nat.cast et.symm)) (beq_f (rot32_ne _ F.ml) r1) (bne_t (rot16_ne _ F.ml) r2) (Lib.hid F.low0) (Lib.hid (by rw [el]; have := low_le (18446744073709551615 - Pl.sext 32 (Pl.made 32 n b)); omega)) (Lib.hid rfl) (Lib.hid F.t0) (Lib.hid (by rw [et]; exact Nat.mod_lt _ (by decide))) (Lib.hid rfl) F.a64 F.ab hbp w
  · have en : eNeg 32 n b = false := by unfold eNeg; rw [es]; exact decide_eq_false hn
    have ez : eZ 32 n b = Pl.sext 32 (Pl.made 32 n b) := by unfold eZ; rw [en, es]; rfl
    have el : eLow 32 n b = (Pl.sext 32 (Pl.made 32 n b)) &&& (18446744073709551616 - (Pl.sext 32 (Pl.made 32 n b))) := by unfold eLow; rw [ez]
    have et : eT 32 n b = ((Pl.sext 32 (Pl.made 32 n b)) + eLow 32 n b) % 18446744073709551616 := by unfold eT; rw [ez]
    rw [en] at hbp
    rw [code_p en] at hc
    rw [← hc]
    exact enc_32_p_64 _ _ _ _ _ _ (sext32_form _) (neg_no _ hn) ((low_form _ (by omega)).trans (congrArg Nat.cast el.symm)) ((u64_add _ _).trans (congrArg Nat.cast et.symm)) (beq_f (rot32_ne _ F.ml) r1) (bne_t (rot16_ne _ F.ml) r2) (Lib.hid F.low0) (Lib.hid (by rw [el]; have := low_le (Pl.sext 32 (Pl.made 32 n b)); omega)) (Lib.hid rfl) (Lib.hid F.t0) (Lib.hid (by rw [et]; exact Nat.mod_lt _ (by decide))) (Lib.hid rfl) F.a64 F.ab hbp w

theorem encm_32_32 (n b : Nat) (F : EncFacts 32 n b) (w : World) :
    Calls Try.prog 28 #[.int .u64 (Pl.made 32 n b), .int .i64 32] w fun e w' => e = .returned (.int .u32 (fieldsN 32 n b : Nat)) ∧ w = w' := by
  have hr := F.r
  have hsl := F.sl
  have hbp := F.bp
  have hc := F.d (by decide)
  unfold rotOk at hr
  rw [if_neg (by decide), if_pos rfl] at hr
  simp only [Bool.and_eq_true, beq_iff_eq, bne_iff_ne, ne_eq] at hr
  obtain ⟨r1, r2⟩ := hr
  have es : eS 32 n b = Pl.sext 32 (Pl.made 32 n b) := by unfold eS; rw [if_neg (by decide)]
  rw [es] at hsl
  rw [if_neg (by decide)] at hbp
  by_cases hn : 9223372036854775808 ≤ Pl.sext 32 (Pl.made 32 n b)
  · have en : eNeg 32 n b = true := by unfold eNeg; rw [es]; exact decide_eq_true hn
    have ez : eZ 32 n b = 18446744073709551615 - Pl.sext 32 (Pl.made 32 n b) := by unfold eZ; rw [en, es]; rfl
    have el : eLow 32 n b = (18446744073709551615 - Pl.sext 32 (Pl.made 32 n b)) &&& (18446744073709551616 - (18446744073709551615 - Pl.sext 32 (Pl.made 32 n b))) := by unfold eLow; rw [ez]
    have et : eT 32 n b = ((18446744073709551615 - Pl.sext 32 (Pl.made 32 n b)) + eLow 32 n b) % 18446744073709551616 := by unfold eT; rw [ez]
    rw [en] at hbp
    rw [code_n en] at hc
    rw [← hc]
    exact enc_32_n_32 _ _ _ _ _ _ _ (sext32_form _) (not_max _ hsl) (neg_yes _ hsl hn) ((low_form _ (by omega)).trans (congrArg Nat.cast el.symm)) ((u64_add _ _).trans (congrArg Nat.cast et.symm)) _ (by omega) (by omega) (lo_form _ F.ml) (lo_both _ (F.l (by decide))) (beq_f (rot32_ne _ F.ml) r1) (bne_t (rot16_ne _ F.ml) r2) (Lib.hid F.low0) (Lib.hid (by rw [el]; have := low_le (18446744073709551615 - Pl.sext 32 (Pl.made 32 n b)); omega)) (Lib.hid rfl) (Lib.hid F.t0) (Lib.hid (by rw [et]; exact Nat.mod_lt _ (by decide))) (Lib.hid rfl) F.a64 F.ab hbp w
  · have en : eNeg 32 n b = false := by unfold eNeg; rw [es]; exact decide_eq_false hn
    have ez : eZ 32 n b = Pl.sext 32 (Pl.made 32 n b) := by unfold eZ; rw [en, es]; rfl
    have el : eLow 32 n b = (Pl.sext 32 (Pl.made 32 n b)) &&& (18446744073709551616 - (Pl.sext 32 (Pl.made 32 n b))) := by unfold eLow; rw [ez]
    have et : eT 32 n b = ((Pl.sext 32 (Pl.made 32 n b)) + eLow 32 n b) % 18446744073709551616 := by unfold eT; rw [ez]
    rw [en] at hbp
    rw [code_p en] at hc
    rw [← hc]
    exact enc_32_p_32 _ _ _ _ _ _ (sext32_form _) (neg_no _ hn) ((low_form _ (by omega)).trans (congrArg Nat.cast el.symm)) ((u64_add _ _).trans (congrArg Nat.cast et.symm)) _ (by omega) (by omega) (lo_form _ F.ml) (lo_both _ (F.l (by decide))) (beq_f (rot32_ne _ F.ml) r1) (bne_t (rot16_ne _ F.ml) r2) (Lib.hid F.low0) (Lib.hid (by rw [el]; have := low_le (Pl.sext 32 (Pl.made 32 n b)); omega)) (Lib.hid rfl) (Lib.hid F.t0) (Lib.hid (by rw [et]; exact Nat.mod_lt _ (by decide))) (Lib.hid rfl) F.a64 F.ab hbp w

theorem encm_16_64 (n b : Nat) (F : EncFacts 16 n b) (w : World) :
    Calls Try.prog 28 #[.int .u64 (Pl.made 16 n b), .int .i64 64] w fun e w' => e = .returned (.int .u32 (fieldsN 16 n b : Nat)) ∧ w = w' := by
  have hr := F.r
  have hsl := F.sl
  have hbp := F.bp
  have hc := F.c
  unfold rotOk at hr
  rw [if_neg (by decide), if_neg (by decide), if_pos rfl] at hr
  simp only [Bool.and_eq_true, beq_iff_eq, bne_iff_ne, ne_eq] at hr
  obtain ⟨⟨r1, r2⟩, r3⟩ := hr
  have es : eS 16 n b = Pl.sext 16 (Pl.made 16 n b) := by unfold eS; rw [if_neg (by decide)]
  rw [es] at hsl
  rw [if_neg (by decide)] at hbp hc
  by_cases hn : 9223372036854775808 ≤ Pl.sext 16 (Pl.made 16 n b)
  · have en : eNeg 16 n b = true := by unfold eNeg; rw [es]; exact decide_eq_true hn
    have ez : eZ 16 n b = 18446744073709551615 - Pl.sext 16 (Pl.made 16 n b) := by unfold eZ; rw [en, es]; rfl
    have el : eLow 16 n b = (18446744073709551615 - Pl.sext 16 (Pl.made 16 n b)) &&& (18446744073709551616 - (18446744073709551615 - Pl.sext 16 (Pl.made 16 n b))) := by unfold eLow; rw [ez]
    have et : eT 16 n b = ((18446744073709551615 - Pl.sext 16 (Pl.made 16 n b)) + eLow 16 n b) % 18446744073709551616 := by unfold eT; rw [ez]
    rw [en] at hbp
    rw [code_n en] at hc
    rw [← hc]
    exact enc_16_n_64 _ _ _ _ _ _ _ (sext16_form _) (not_max _ hsl) (neg_yes _ hsl hn) ((low_form _ (by omega)).trans (congrArg Nat.cast el.symm)) ((u64_add _ _).trans (congrArg Nat.cast et.symm)) (beq_f (rot32_ne _ F.ml) r1) (beq_f (rot16_ne _ F.ml) r2) (bne_t (rot8_ne _ F.ml) r3) (Lib.hid F.low0) (Lib.hid (by rw [el]; have := low_le (18446744073709551615 - Pl.sext 16 (Pl.made 16 n b)); omega)) (Lib.hid rfl) (Lib.hid F.t0) (Lib.hid (by rw [et]; exact Nat.mod_lt _ (by decide))) (Lib.hid rfl) F.a64 F.ab hbp w
  · have en : eNeg 16 n b = false := by unfold eNeg; rw [es]; exact decide_eq_false hn
    have ez : eZ 16 n b = Pl.sext 16 (Pl.made 16 n b) := by unfold eZ; rw [en, es]; rfl
    have el : eLow 16 n b = (Pl.sext 16 (Pl.made 16 n b)) &&& (18446744073709551616 - (Pl.sext 16 (Pl.made 16 n b))) := by unfold eLow; rw [ez]
    have et : eT 16 n b = ((Pl.sext 16 (Pl.made 16 n b)) + eLow 16 n b) % 18446744073709551616 := by unfold eT; rw [ez]
    rw [en] at hbp
    rw [code_p en] at hc
    rw [← hc]
    exact enc_16_p_64 _ _ _ _ _ _ (sext16_form _) (neg_no _ hn) ((low_form _ (by omega)).trans (congrArg Nat.cast el.symm)) ((u64_add _ _).trans (congrArg Nat.cast et.symm)) (beq_f (rot32_ne _ F.ml) r1) (beq_f (rot16_ne _ F.ml) r2) (bne_t (rot8_ne _ F.ml) r3) (Lib.hid F.low0) (Lib.hid (by rw [el]; have := low_le (Pl.sext 16 (Pl.made 16 n b)); omega)) (Lib.hid rfl) (Lib.hid F.t0) (Lib.hid (by rw [et]; exact Nat.mod_lt _ (by decide))) (Lib.hid rfl) F.a64 F.ab hbp w

theorem encm_16_32 (n b : Nat) (F : EncFacts 16 n b) (w : World) :
    Calls Try.prog 28 #[.int .u64 (Pl.made 16 n b), .int .i64 32] w fun e w' => e = .returned (.int .u32 (fieldsN 16 n b : Nat)) ∧ w = w' := by
  have hr := F.r
  have hsl := F.sl
  have hbp := F.bp
  have hc := F.d (by decide)
  unfold rotOk at hr
  rw [if_neg (by decide), if_neg (by decide), if_pos rfl] at hr
  simp only [Bool.and_eq_true, beq_iff_eq, bne_iff_ne, ne_eq] at hr
  obtain ⟨⟨r1, r2⟩, r3⟩ := hr
  have es : eS 16 n b = Pl.sext 16 (Pl.made 16 n b) := by unfold eS; rw [if_neg (by decide)]
  rw [es] at hsl
  rw [if_neg (by decide)] at hbp
  by_cases hn : 9223372036854775808 ≤ Pl.sext 16 (Pl.made 16 n b)
  · have en : eNeg 16 n b = true := by unfold eNeg; rw [es]; exact decide_eq_true hn
    have ez : eZ 16 n b = 18446744073709551615 - Pl.sext 16 (Pl.made 16 n b) := by unfold eZ; rw [en, es]; rfl
    have el : eLow 16 n b = (18446744073709551615 - Pl.sext 16 (Pl.made 16 n b)) &&& (18446744073709551616 - (18446744073709551615 - Pl.sext 16 (Pl.made 16 n b))) := by unfold eLow; rw [ez]
    have et : eT 16 n b = ((18446744073709551615 - Pl.sext 16 (Pl.made 16 n b)) + eLow 16 n b) % 18446744073709551616 := by unfold eT; rw [ez]
    rw [en] at hbp
    rw [code_n en] at hc
    rw [← hc]
    exact enc_16_n_32 _ _ _ _ _ _ _ (sext16_form _) (not_max _ hsl) (neg_yes _ hsl hn) ((low_form _ (by omega)).trans (congrArg Nat.cast el.symm)) ((u64_add _ _).trans (congrArg Nat.cast et.symm)) _ (by omega) (by omega) (lo_form _ F.ml) (lo_both _ (F.l (by decide))) (beq_f (rot32_ne _ F.ml) r1) (beq_f (rot16_ne _ F.ml) r2) (bne_t (rot8_ne _ F.ml) r3) (Lib.hid F.low0) (Lib.hid (by rw [el]; have := low_le (18446744073709551615 - Pl.sext 16 (Pl.made 16 n b)); omega)) (Lib.hid rfl) (Lib.hid F.t0) (Lib.hid (by rw [et]; exact Nat.mod_lt _ (by decide))) (Lib.hid rfl) F.a64 F.ab hbp w
  · have en : eNeg 16 n b = false := by unfold eNeg; rw [es]; exact decide_eq_false hn
    have ez : eZ 16 n b = Pl.sext 16 (Pl.made 16 n b) := by unfold eZ; rw [en, es]; rfl
    have el : eLow 16 n b = (Pl.sext 16 (Pl.made 16 n b)) &&& (18446744073709551616 - (Pl.sext 16 (Pl.made 16 n b))) := by unfold eLow; rw [ez]
    have et : eT 16 n b = ((Pl.sext 16 (Pl.made 16 n b)) + eLow 16 n b) % 18446744073709551616 := by unfold eT; rw [ez]
    rw [en] at hbp
    rw [code_p en] at hc
    rw [← hc]
    exact enc_16_p_32 _ _ _ _ _ _ (sext16_form _) (neg_no _ hn) ((low_form _ (by omega)).trans (congrArg Nat.cast el.symm)) ((u64_add _ _).trans (congrArg Nat.cast et.symm)) _ (by omega) (by omega) (lo_form _ F.ml) (lo_both _ (F.l (by decide))) (beq_f (rot32_ne _ F.ml) r1) (beq_f (rot16_ne _ F.ml) r2) (bne_t (rot8_ne _ F.ml) r3) (Lib.hid F.low0) (Lib.hid (by rw [el]; have := low_le (Pl.sext 16 (Pl.made 16 n b)); omega)) (Lib.hid rfl) (Lib.hid F.t0) (Lib.hid (by rw [et]; exact Nat.mod_lt _ (by decide))) (Lib.hid rfl) F.a64 F.ab hbp w

theorem encm_8_64 (n b : Nat) (F : EncFacts 8 n b) (w : World) :
    Calls Try.prog 28 #[.int .u64 (Pl.made 8 n b), .int .i64 64] w fun e w' => e = .returned (.int .u32 (fieldsN 8 n b : Nat)) ∧ w = w' := by
  have hr := F.r
  have hsl := F.sl
  have hbp := F.bp
  have hc := F.c
  unfold rotOk at hr
  rw [if_neg (by decide), if_neg (by decide), if_neg (by decide), if_pos rfl] at hr
  simp only [Bool.and_eq_true, beq_iff_eq, bne_iff_ne, ne_eq] at hr
  obtain ⟨⟨⟨r1, r2⟩, r3⟩, r4⟩ := hr
  have es : eS 8 n b = Pl.sext 8 (Pl.made 8 n b) := by unfold eS; rw [if_neg (by decide)]
  rw [es] at hsl
  rw [if_neg (by decide)] at hbp hc
  by_cases hn : 9223372036854775808 ≤ Pl.sext 8 (Pl.made 8 n b)
  · have en : eNeg 8 n b = true := by unfold eNeg; rw [es]; exact decide_eq_true hn
    have ez : eZ 8 n b = 18446744073709551615 - Pl.sext 8 (Pl.made 8 n b) := by unfold eZ; rw [en, es]; rfl
    have el : eLow 8 n b = (18446744073709551615 - Pl.sext 8 (Pl.made 8 n b)) &&& (18446744073709551616 - (18446744073709551615 - Pl.sext 8 (Pl.made 8 n b))) := by unfold eLow; rw [ez]
    have et : eT 8 n b = ((18446744073709551615 - Pl.sext 8 (Pl.made 8 n b)) + eLow 8 n b) % 18446744073709551616 := by unfold eT; rw [ez]
    rw [en] at hbp
    rw [code_n en] at hc
    rw [← hc]
    exact enc_8_n_64 _ _ _ _ _ _ _ (sext8_form _) (not_max _ hsl) (neg_yes _ hsl hn) ((low_form _ (by omega)).trans (congrArg Nat.cast el.symm)) ((u64_add _ _).trans (congrArg Nat.cast et.symm)) (beq_f (rot32_ne _ F.ml) r1) (beq_f (rot16_ne _ F.ml) r2) (beq_f (rot8_ne _ F.ml) r3) (bne_t (rot4_ne _ F.ml) r4) (Lib.hid F.low0) (Lib.hid (by rw [el]; have := low_le (18446744073709551615 - Pl.sext 8 (Pl.made 8 n b)); omega)) (Lib.hid rfl) (Lib.hid F.t0) (Lib.hid (by rw [et]; exact Nat.mod_lt _ (by decide))) (Lib.hid rfl) F.a64 F.ab hbp w
  · have en : eNeg 8 n b = false := by unfold eNeg; rw [es]; exact decide_eq_false hn
    have ez : eZ 8 n b = Pl.sext 8 (Pl.made 8 n b) := by unfold eZ; rw [en, es]; rfl
    have el : eLow 8 n b = (Pl.sext 8 (Pl.made 8 n b)) &&& (18446744073709551616 - (Pl.sext 8 (Pl.made 8 n b))) := by unfold eLow; rw [ez]
    have et : eT 8 n b = ((Pl.sext 8 (Pl.made 8 n b)) + eLow 8 n b) % 18446744073709551616 := by unfold eT; rw [ez]
    rw [en] at hbp
    rw [code_p en] at hc
    rw [← hc]
    exact enc_8_p_64 _ _ _ _ _ _ (sext8_form _) (neg_no _ hn) ((low_form _ (by omega)).trans (congrArg Nat.cast el.symm)) ((u64_add _ _).trans (congrArg Nat.cast et.symm)) (beq_f (rot32_ne _ F.ml) r1) (beq_f (rot16_ne _ F.ml) r2) (beq_f (rot8_ne _ F.ml) r3) (bne_t (rot4_ne _ F.ml) r4) (Lib.hid F.low0) (Lib.hid (by rw [el]; have := low_le (Pl.sext 8 (Pl.made 8 n b)); omega)) (Lib.hid rfl) (Lib.hid F.t0) (Lib.hid (by rw [et]; exact Nat.mod_lt _ (by decide))) (Lib.hid rfl) F.a64 F.ab hbp w

theorem encm_8_32 (n b : Nat) (F : EncFacts 8 n b) (w : World) :
    Calls Try.prog 28 #[.int .u64 (Pl.made 8 n b), .int .i64 32] w fun e w' => e = .returned (.int .u32 (fieldsN 8 n b : Nat)) ∧ w = w' := by
  have hr := F.r
  have hsl := F.sl
  have hbp := F.bp
  have hc := F.d (by decide)
  unfold rotOk at hr
  rw [if_neg (by decide), if_neg (by decide), if_neg (by decide), if_pos rfl] at hr
  simp only [Bool.and_eq_true, beq_iff_eq, bne_iff_ne, ne_eq] at hr
  obtain ⟨⟨⟨r1, r2⟩, r3⟩, r4⟩ := hr
  have es : eS 8 n b = Pl.sext 8 (Pl.made 8 n b) := by unfold eS; rw [if_neg (by decide)]
  rw [es] at hsl
  rw [if_neg (by decide)] at hbp
  by_cases hn : 9223372036854775808 ≤ Pl.sext 8 (Pl.made 8 n b)
  · have en : eNeg 8 n b = true := by unfold eNeg; rw [es]; exact decide_eq_true hn
    have ez : eZ 8 n b = 18446744073709551615 - Pl.sext 8 (Pl.made 8 n b) := by unfold eZ; rw [en, es]; rfl
    have el : eLow 8 n b = (18446744073709551615 - Pl.sext 8 (Pl.made 8 n b)) &&& (18446744073709551616 - (18446744073709551615 - Pl.sext 8 (Pl.made 8 n b))) := by unfold eLow; rw [ez]
    have et : eT 8 n b = ((18446744073709551615 - Pl.sext 8 (Pl.made 8 n b)) + eLow 8 n b) % 18446744073709551616 := by unfold eT; rw [ez]
    rw [en] at hbp
    rw [code_n en] at hc
    rw [← hc]
    exact enc_8_n_32 _ _ _ _ _ _ _ (sext8_form _) (not_max _ hsl) (neg_yes _ hsl hn) ((low_form _ (by omega)).trans (congrArg Nat.cast el.symm)) ((u64_add _ _).trans (congrArg Nat.cast et.symm)) _ (by omega) (by omega) (lo_form _ F.ml) (lo_both _ (F.l (by decide))) (beq_f (rot32_ne _ F.ml) r1) (beq_f (rot16_ne _ F.ml) r2) (beq_f (rot8_ne _ F.ml) r3) (bne_t (rot4_ne _ F.ml) r4) (Lib.hid F.low0) (Lib.hid (by rw [el]; have := low_le (18446744073709551615 - Pl.sext 8 (Pl.made 8 n b)); omega)) (Lib.hid rfl) (Lib.hid F.t0) (Lib.hid (by rw [et]; exact Nat.mod_lt _ (by decide))) (Lib.hid rfl) F.a64 F.ab hbp w
  · have en : eNeg 8 n b = false := by unfold eNeg; rw [es]; exact decide_eq_false hn
    have ez : eZ 8 n b = Pl.sext 8 (Pl.made 8 n b) := by unfold eZ; rw [en, es]; rfl
    have el : eLow 8 n b = (Pl.sext 8 (Pl.made 8 n b)) &&& (18446744073709551616 - (Pl.sext 8 (Pl.made 8 n b))) := by unfold eLow; rw [ez]
    have et : eT 8 n b = ((Pl.sext 8 (Pl.made 8 n b)) + eLow 8 n b) % 18446744073709551616 := by unfold eT; rw [ez]
    rw [en] at hbp
    rw [code_p en] at hc
    rw [← hc]
    exact enc_8_p_32 _ _ _ _ _ _ (sext8_form _) (neg_no _ hn) ((low_form _ (by omega)).trans (congrArg Nat.cast el.symm)) ((u64_add _ _).trans (congrArg Nat.cast et.symm)) _ (by omega) (by omega) (lo_form _ F.ml) (lo_both _ (F.l (by decide))) (beq_f (rot32_ne _ F.ml) r1) (beq_f (rot16_ne _ F.ml) r2) (beq_f (rot8_ne _ F.ml) r3) (bne_t (rot4_ne _ F.ml) r4) (Lib.hid F.low0) (Lib.hid (by rw [el]; have := low_le (Pl.sext 8 (Pl.made 8 n b)); omega)) (Lib.hid rfl) (Lib.hid F.t0) (Lib.hid (by rw [et]; exact Nat.mod_lt _ (by decide))) (Lib.hid rfl) F.a64 F.ab hbp w

theorem encm_4_64 (n b : Nat) (F : EncFacts 4 n b) (w : World) :
    Calls Try.prog 28 #[.int .u64 (Pl.made 4 n b), .int .i64 64] w fun e w' => e = .returned (.int .u32 (fieldsN 4 n b : Nat)) ∧ w = w' := by
  have hr := F.r
  have hsl := F.sl
  have hbp := F.bp
  have hc := F.c
  unfold rotOk at hr
  rw [if_neg (by decide), if_neg (by decide), if_neg (by decide), if_neg (by decide), if_pos rfl] at hr
  simp only [Bool.and_eq_true, beq_iff_eq, bne_iff_ne, ne_eq] at hr
  obtain ⟨⟨⟨⟨r1, r2⟩, r3⟩, r4⟩, r5⟩ := hr
  have es : eS 4 n b = Pl.sext 4 (Pl.made 4 n b) := by unfold eS; rw [if_neg (by decide)]
  rw [es] at hsl
  rw [if_neg (by decide)] at hbp hc
  by_cases hn : 9223372036854775808 ≤ Pl.sext 4 (Pl.made 4 n b)
  · have en : eNeg 4 n b = true := by unfold eNeg; rw [es]; exact decide_eq_true hn
    have ez : eZ 4 n b = 18446744073709551615 - Pl.sext 4 (Pl.made 4 n b) := by unfold eZ; rw [en, es]; rfl
    have el : eLow 4 n b = (18446744073709551615 - Pl.sext 4 (Pl.made 4 n b)) &&& (18446744073709551616 - (18446744073709551615 - Pl.sext 4 (Pl.made 4 n b))) := by unfold eLow; rw [ez]
    have et : eT 4 n b = ((18446744073709551615 - Pl.sext 4 (Pl.made 4 n b)) + eLow 4 n b) % 18446744073709551616 := by unfold eT; rw [ez]
    rw [en] at hbp
    rw [code_n en] at hc
    rw [← hc]
    exact enc_4_n_64 _ _ _ _ _ _ _ (sext4_form _) (not_max _ hsl) (neg_yes _ hsl hn) ((low_form _ (by omega)).trans (congrArg Nat.cast el.symm)) ((u64_add _ _).trans (congrArg Nat.cast et.symm)) (beq_f (rot32_ne _ F.ml) r1) (beq_f (rot16_ne _ F.ml) r2) (beq_f (rot8_ne _ F.ml) r3) (beq_f (rot4_ne _ F.ml) r4) (bne_t (rot2_ne _ F.ml) r5) (Lib.hid F.low0) (Lib.hid (by rw [el]; have := low_le (18446744073709551615 - Pl.sext 4 (Pl.made 4 n b)); omega)) (Lib.hid rfl) (Lib.hid F.t0) (Lib.hid (by rw [et]; exact Nat.mod_lt _ (by decide))) (Lib.hid rfl) F.a64 F.ab hbp w
  · have en : eNeg 4 n b = false := by unfold eNeg; rw [es]; exact decide_eq_false hn
    have ez : eZ 4 n b = Pl.sext 4 (Pl.made 4 n b) := by unfold eZ; rw [en, es]; rfl
    have el : eLow 4 n b = (Pl.sext 4 (Pl.made 4 n b)) &&& (18446744073709551616 - (Pl.sext 4 (Pl.made 4 n b))) := by unfold eLow; rw [ez]
    have et : eT 4 n b = ((Pl.sext 4 (Pl.made 4 n b)) + eLow 4 n b) % 18446744073709551616 := by unfold eT; rw [ez]
    rw [en] at hbp
    rw [code_p en] at hc
    rw [← hc]
    exact enc_4_p_64 _ _ _ _ _ _ (sext4_form _) (neg_no _ hn) ((low_form _ (by omega)).trans (congrArg Nat.cast el.symm)) ((u64_add _ _).trans (congrArg Nat.cast et.symm)) (beq_f (rot32_ne _ F.ml) r1) (beq_f (rot16_ne _ F.ml) r2) (beq_f (rot8_ne _ F.ml) r3) (beq_f (rot4_ne _ F.ml) r4) (bne_t (rot2_ne _ F.ml) r5) (Lib.hid F.low0) (Lib.hid (by rw [el]; have := low_le (Pl.sext 4 (Pl.made 4 n b)); omega)) (Lib.hid rfl) (Lib.hid F.t0) (Lib.hid (by rw [et]; exact Nat.mod_lt _ (by decide))) (Lib.hid rfl) F.a64 F.ab hbp w

theorem encm_4_32 (n b : Nat) (F : EncFacts 4 n b) (w : World) :
    Calls Try.prog 28 #[.int .u64 (Pl.made 4 n b), .int .i64 32] w fun e w' => e = .returned (.int .u32 (fieldsN 4 n b : Nat)) ∧ w = w' := by
  have hr := F.r
  have hsl := F.sl
  have hbp := F.bp
  have hc := F.d (by decide)
  unfold rotOk at hr
  rw [if_neg (by decide), if_neg (by decide), if_neg (by decide), if_neg (by decide), if_pos rfl] at hr
  simp only [Bool.and_eq_true, beq_iff_eq, bne_iff_ne, ne_eq] at hr
  obtain ⟨⟨⟨⟨r1, r2⟩, r3⟩, r4⟩, r5⟩ := hr
  have es : eS 4 n b = Pl.sext 4 (Pl.made 4 n b) := by unfold eS; rw [if_neg (by decide)]
  rw [es] at hsl
  rw [if_neg (by decide)] at hbp
  by_cases hn : 9223372036854775808 ≤ Pl.sext 4 (Pl.made 4 n b)
  · have en : eNeg 4 n b = true := by unfold eNeg; rw [es]; exact decide_eq_true hn
    have ez : eZ 4 n b = 18446744073709551615 - Pl.sext 4 (Pl.made 4 n b) := by unfold eZ; rw [en, es]; rfl
    have el : eLow 4 n b = (18446744073709551615 - Pl.sext 4 (Pl.made 4 n b)) &&& (18446744073709551616 - (18446744073709551615 - Pl.sext 4 (Pl.made 4 n b))) := by unfold eLow; rw [ez]
    have et : eT 4 n b = ((18446744073709551615 - Pl.sext 4 (Pl.made 4 n b)) + eLow 4 n b) % 18446744073709551616 := by unfold eT; rw [ez]
    rw [en] at hbp
    rw [code_n en] at hc
    rw [← hc]
    exact enc_4_n_32 _ _ _ _ _ _ _ (sext4_form _) (not_max _ hsl) (neg_yes _ hsl hn) ((low_form _ (by omega)).trans (congrArg Nat.cast el.symm)) ((u64_add _ _).trans (congrArg Nat.cast et.symm)) _ (by omega) (by omega) (lo_form _ F.ml) (lo_both _ (F.l (by decide))) (beq_f (rot32_ne _ F.ml) r1) (beq_f (rot16_ne _ F.ml) r2) (beq_f (rot8_ne _ F.ml) r3) (beq_f (rot4_ne _ F.ml) r4) (bne_t (rot2_ne _ F.ml) r5) (Lib.hid F.low0) (Lib.hid (by rw [el]; have := low_le (18446744073709551615 - Pl.sext 4 (Pl.made 4 n b)); omega)) (Lib.hid rfl) (Lib.hid F.t0) (Lib.hid (by rw [et]; exact Nat.mod_lt _ (by decide))) (Lib.hid rfl) F.a64 F.ab hbp w
  · have en : eNeg 4 n b = false := by unfold eNeg; rw [es]; exact decide_eq_false hn
    have ez : eZ 4 n b = Pl.sext 4 (Pl.made 4 n b) := by unfold eZ; rw [en, es]; rfl
    have el : eLow 4 n b = (Pl.sext 4 (Pl.made 4 n b)) &&& (18446744073709551616 - (Pl.sext 4 (Pl.made 4 n b))) := by unfold eLow; rw [ez]
    have et : eT 4 n b = ((Pl.sext 4 (Pl.made 4 n b)) + eLow 4 n b) % 18446744073709551616 := by unfold eT; rw [ez]
    rw [en] at hbp
    rw [code_p en] at hc
    rw [← hc]
    exact enc_4_p_32 _ _ _ _ _ _ (sext4_form _) (neg_no _ hn) ((low_form _ (by omega)).trans (congrArg Nat.cast el.symm)) ((u64_add _ _).trans (congrArg Nat.cast et.symm)) _ (by omega) (by omega) (lo_form _ F.ml) (lo_both _ (F.l (by decide))) (beq_f (rot32_ne _ F.ml) r1) (beq_f (rot16_ne _ F.ml) r2) (beq_f (rot8_ne _ F.ml) r3) (beq_f (rot4_ne _ F.ml) r4) (bne_t (rot2_ne _ F.ml) r5) (Lib.hid F.low0) (Lib.hid (by rw [el]; have := low_le (Pl.sext 4 (Pl.made 4 n b)); omega)) (Lib.hid rfl) (Lib.hid F.t0) (Lib.hid (by rw [et]; exact Nat.mod_lt _ (by decide))) (Lib.hid rfl) F.a64 F.ab hbp w

theorem encm_2_64 (n b : Nat) (F : EncFacts 2 n b) (w : World) :
    Calls Try.prog 28 #[.int .u64 (Pl.made 2 n b), .int .i64 64] w fun e w' => e = .returned (.int .u32 (fieldsN 2 n b : Nat)) ∧ w = w' := by
  have hr := F.r
  have hsl := F.sl
  have hbp := F.bp
  have hc := F.c
  unfold rotOk at hr
  rw [if_neg (by decide), if_neg (by decide), if_neg (by decide), if_neg (by decide), if_neg (by decide)] at hr
  simp only [Bool.and_eq_true, beq_iff_eq] at hr
  obtain ⟨⟨⟨⟨r1, r2⟩, r3⟩, r4⟩, r5⟩ := hr
  have es : eS 2 n b = Pl.sext 2 (Pl.made 2 n b) := by unfold eS; rw [if_neg (by decide)]
  rw [es] at hsl
  rw [if_neg (by decide)] at hbp hc
  by_cases hn : 9223372036854775808 ≤ Pl.sext 2 (Pl.made 2 n b)
  · have en : eNeg 2 n b = true := by unfold eNeg; rw [es]; exact decide_eq_true hn
    have ez : eZ 2 n b = 18446744073709551615 - Pl.sext 2 (Pl.made 2 n b) := by unfold eZ; rw [en, es]; rfl
    have el : eLow 2 n b = (18446744073709551615 - Pl.sext 2 (Pl.made 2 n b)) &&& (18446744073709551616 - (18446744073709551615 - Pl.sext 2 (Pl.made 2 n b))) := by unfold eLow; rw [ez]
    have et : eT 2 n b = ((18446744073709551615 - Pl.sext 2 (Pl.made 2 n b)) + eLow 2 n b) % 18446744073709551616 := by unfold eT; rw [ez]
    rw [en] at hbp
    rw [code_n en] at hc
    rw [← hc]
    exact enc_2_n_64 _ _ _ _ _ _ _ (sext2_form _) (not_max _ hsl) (neg_yes _ hsl hn) ((low_form _ (by omega)).trans (congrArg Nat.cast el.symm)) ((u64_add _ _).trans (congrArg Nat.cast et.symm)) (beq_f (rot32_ne _ F.ml) r1) (beq_f (rot16_ne _ F.ml) r2) (beq_f (rot8_ne _ F.ml) r3) (beq_f (rot4_ne _ F.ml) r4) (beq_f (rot2_ne _ F.ml) r5) (Lib.hid F.low0) (Lib.hid (by rw [el]; have := low_le (18446744073709551615 - Pl.sext 2 (Pl.made 2 n b)); omega)) (Lib.hid rfl) (Lib.hid F.t0) (Lib.hid (by rw [et]; exact Nat.mod_lt _ (by decide))) (Lib.hid rfl) F.a64 F.ab hbp w
  · have en : eNeg 2 n b = false := by unfold eNeg; rw [es]; exact decide_eq_false hn
    have ez : eZ 2 n b = Pl.sext 2 (Pl.made 2 n b) := by unfold eZ; rw [en, es]; rfl
    have el : eLow 2 n b = (Pl.sext 2 (Pl.made 2 n b)) &&& (18446744073709551616 - (Pl.sext 2 (Pl.made 2 n b))) := by unfold eLow; rw [ez]
    have et : eT 2 n b = ((Pl.sext 2 (Pl.made 2 n b)) + eLow 2 n b) % 18446744073709551616 := by unfold eT; rw [ez]
    rw [en] at hbp
    rw [code_p en] at hc
    rw [← hc]
    exact enc_2_p_64 _ _ _ _ _ _ (sext2_form _) (neg_no _ hn) ((low_form _ (by omega)).trans (congrArg Nat.cast el.symm)) ((u64_add _ _).trans (congrArg Nat.cast et.symm)) (beq_f (rot32_ne _ F.ml) r1) (beq_f (rot16_ne _ F.ml) r2) (beq_f (rot8_ne _ F.ml) r3) (beq_f (rot4_ne _ F.ml) r4) (beq_f (rot2_ne _ F.ml) r5) (Lib.hid F.low0) (Lib.hid (by rw [el]; have := low_le (Pl.sext 2 (Pl.made 2 n b)); omega)) (Lib.hid rfl) (Lib.hid F.t0) (Lib.hid (by rw [et]; exact Nat.mod_lt _ (by decide))) (Lib.hid rfl) F.a64 F.ab hbp w

theorem encm_2_32 (n b : Nat) (F : EncFacts 2 n b) (w : World) :
    Calls Try.prog 28 #[.int .u64 (Pl.made 2 n b), .int .i64 32] w fun e w' => e = .returned (.int .u32 (fieldsN 2 n b : Nat)) ∧ w = w' := by
  have hr := F.r
  have hsl := F.sl
  have hbp := F.bp
  have hc := F.d (by decide)
  unfold rotOk at hr
  rw [if_neg (by decide), if_neg (by decide), if_neg (by decide), if_neg (by decide), if_neg (by decide)] at hr
  simp only [Bool.and_eq_true, beq_iff_eq] at hr
  obtain ⟨⟨⟨⟨r1, r2⟩, r3⟩, r4⟩, r5⟩ := hr
  have es : eS 2 n b = Pl.sext 2 (Pl.made 2 n b) := by unfold eS; rw [if_neg (by decide)]
  rw [es] at hsl
  rw [if_neg (by decide)] at hbp
  by_cases hn : 9223372036854775808 ≤ Pl.sext 2 (Pl.made 2 n b)
  · have en : eNeg 2 n b = true := by unfold eNeg; rw [es]; exact decide_eq_true hn
    have ez : eZ 2 n b = 18446744073709551615 - Pl.sext 2 (Pl.made 2 n b) := by unfold eZ; rw [en, es]; rfl
    have el : eLow 2 n b = (18446744073709551615 - Pl.sext 2 (Pl.made 2 n b)) &&& (18446744073709551616 - (18446744073709551615 - Pl.sext 2 (Pl.made 2 n b))) := by unfold eLow; rw [ez]
    have et : eT 2 n b = ((18446744073709551615 - Pl.sext 2 (Pl.made 2 n b)) + eLow 2 n b) % 18446744073709551616 := by unfold eT; rw [ez]
    rw [en] at hbp
    rw [code_n en] at hc
    rw [← hc]
    exact enc_2_n_32 _ _ _ _ _ _ _ (sext2_form _) (not_max _ hsl) (neg_yes _ hsl hn) ((low_form _ (by omega)).trans (congrArg Nat.cast el.symm)) ((u64_add _ _).trans (congrArg Nat.cast et.symm)) _ (by omega) (by omega) (lo_form _ F.ml) (lo_both _ (F.l (by decide))) (beq_f (rot32_ne _ F.ml) r1) (beq_f (rot16_ne _ F.ml) r2) (beq_f (rot8_ne _ F.ml) r3) (beq_f (rot4_ne _ F.ml) r4) (beq_f (rot2_ne _ F.ml) r5) (Lib.hid F.low0) (Lib.hid (by rw [el]; have := low_le (18446744073709551615 - Pl.sext 2 (Pl.made 2 n b)); omega)) (Lib.hid rfl) (Lib.hid F.t0) (Lib.hid (by rw [et]; exact Nat.mod_lt _ (by decide))) (Lib.hid rfl) F.a64 F.ab hbp w
  · have en : eNeg 2 n b = false := by unfold eNeg; rw [es]; exact decide_eq_false hn
    have ez : eZ 2 n b = Pl.sext 2 (Pl.made 2 n b) := by unfold eZ; rw [en, es]; rfl
    have el : eLow 2 n b = (Pl.sext 2 (Pl.made 2 n b)) &&& (18446744073709551616 - (Pl.sext 2 (Pl.made 2 n b))) := by unfold eLow; rw [ez]
    have et : eT 2 n b = ((Pl.sext 2 (Pl.made 2 n b)) + eLow 2 n b) % 18446744073709551616 := by unfold eT; rw [ez]
    rw [en] at hbp
    rw [code_p en] at hc
    rw [← hc]
    exact enc_2_p_32 _ _ _ _ _ _ (sext2_form _) (neg_no _ hn) ((low_form _ (by omega)).trans (congrArg Nat.cast el.symm)) ((u64_add _ _).trans (congrArg Nat.cast et.symm)) _ (by omega) (by omega) (lo_form _ F.ml) (lo_both _ (F.l (by decide))) (beq_f (rot32_ne _ F.ml) r1) (beq_f (rot16_ne _ F.ml) r2) (beq_f (rot8_ne _ F.ml) r3) (beq_f (rot4_ne _ F.ml) r4) (beq_f (rot2_ne _ F.ml) r5) (Lib.hid F.low0) (Lib.hid (by rw [el]; have := low_le (Pl.sext 2 (Pl.made 2 n b)); omega)) (Lib.hid rfl) (Lib.hid F.t0) (Lib.hid (by rw [et]; exact Nat.mod_lt _ (by decide))) (Lib.hid rfl) F.a64 F.ab hbp w

theorem encode_64 (p n b : Nat) (hm : Pl.IsMade p n b) (w : World) :
    Calls Try.prog 28 #[.int .u64 (Pl.made p n b), .int .i64 64] w fun e w' => e = .returned (.int .u32 (fieldsN p n b : Nat)) ∧ w = w' := by
  have F := enc_facts hm
  have hp := hm.1
  simp only [Pl.periods, List.mem_cons, List.not_mem_nil, or_false] at hp
  rcases hp with rfl | rfl | rfl | rfl | rfl | rfl
  · exact encm_2_64 n b F w
  · exact encm_4_64 n b F w
  · exact encm_8_64 n b F w
  · exact encm_16_64 n b F w
  · exact encm_32_64 n b F w
  · exact encm_64_64 n b F w
theorem encode_32 (p n b : Nat) (hm : Pl.IsMade p n b) (h32 : p ≤ 32) (w : World) :
    Calls Try.prog 28 #[.int .u64 (Pl.made p n b), .int .i64 32] w fun e w' => e = .returned (.int .u32 (fieldsN p n b : Nat)) ∧ w = w' := by
  have F := enc_facts hm
  have hp := hm.1
  simp only [Pl.periods, List.mem_cons, List.not_mem_nil, or_false] at hp
  rcases hp with rfl | rfl | rfl | rfl | rfl | rfl
  · exact encm_2_32 n b F w
  · exact encm_4_32 n b F w
  · exact encm_8_32 n b F w
  · exact encm_16_32 n b F w
  · exact encm_32_32 n b F w
  · omega

theorem iencode_any (z : Int) (md : Int) (p n b : Nat) (hz : z = Pl.made p n b) (hm : Pl.IsMade p n b) (h : md = 64 ∨ md = 32 ∧ p ≤ 32) (w : World) :
    Calls Try.prog 18 #[.int .u64 z, .int .i64 md] w fun e w' => e = .returned (.int .u32 (fieldsN p n b : Nat)) ∧ w = w' := by
  subst hz
  have HM := Lib.hid hm; clear hm
  rcases h with rfl | ⟨rfl, h32⟩
  · go_enter Try.func18, Try.ntmps18
    go_wp2_with (first | (go_at_call 28; (with_reducible refine (encode_64 p n b HM.out _).mono ?_); rintro e w' ⟨rfl, rfl⟩) | go_in)
    go_ret
    exact ⟨rfl, rfl⟩
  · go_enter Try.func18, Try.ntmps18
    go_wp2_with (first | (go_at_call 28; (with_reducible refine (encode_32 p n b HM.out h32 _).mono ?_); rintro e w' ⟨rfl, rfl⟩) | go_in)
    go_ret
    exact ⟨rfl, rfl⟩
end Go.Proofs.Ytnohdfdjhhmmdaa
