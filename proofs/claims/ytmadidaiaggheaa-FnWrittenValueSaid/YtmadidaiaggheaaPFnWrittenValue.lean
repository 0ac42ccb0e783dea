/-
  FnWrittenValue: for every function that IsCode takes and every place the other reader finds what the table has. No condition.
  The walk is mine; the row's step is after the kit's shell (proof-skeleton.mjs).
-/
import Derived.Test.YtmadidaiaggheaaRows
import Derived.Test.YtmadidaiaggheaaFrame
import Derived.Test.YtmadidaiaggheaaWrittenValue
namespace Go.Proofs.Ytmadidaiaggheaa.fnWrittenValue
open Go.ChangeShapes Go.WideShapes Go.ChangeAt Go.RowKit

theorem own : ownKnob Try.prog.godebug = none := by kernel_rfl

set_option maxRecDepth 100000 in
theorem lifted (os : Os) (started : os.Started) (H : Type) (enc : TypeId × Value → H) :
    ReturnsInHanded {} Try.checked os 9 .any (Rows.fnWrittenValueSpec.pre6 enc Try.prog Try.f9 Rows.fnWrittenValueRow.domain false) (Rows.fnWrittenValueSpec.post enc Try.prog Try.f9 false true false false) := by
  refine returnsInHanded_of_change (C := Try.checked) own started (by kernel_rfl) Try.func9
    (ChangeSpec.witness6 (enc := enc) (C := Try.checked) false ⟨#[], #[.slice none 0 0, .int .i64 0, .slice none 0 0, .slice none 0 0, .int .i64 0, .int .u64 0], []⟩ 8 (by kernel_rfl) (by kernel_rfl) (by kernel_rfl) (by kernel_rfl)) ?_
  intro W base args ds gs before hval0 hW _ _
  have hval : ∀ (j : Nat) t v, Try.f9.params[j]? = some t → args[j]? = some v → Value.okWide Try.prog W .any base t v := hval0
  have hW' := hW
  obtain ⟨p, q, hA0, hV, rfl, _, _⟩ := hW
  have hA : DataW.TrodAll enc Try.prog W 0 (fun _ => true) true Try.f9.params.toList args.toList ds p := hA0
  rw [Try.params9] at hA hval
  obtain ⟨v0, vs0, d0, ds0, p0, q0, hargs, rfl, rfl, h0, r0⟩ := trodAll_cons hA
  obtain ⟨v1, vs1, d1, ds1, p1, q1, rfl, rfl, rfl, h1, r1⟩ := trodAll_cons r0
  obtain ⟨v2, vs2, d2, ds2, p2, q2, rfl, rfl, rfl, h2, r2⟩ := trodAll_cons r1
  obtain ⟨v3, vs3, d3, ds3, p3, q3, rfl, rfl, rfl, h3, r3⟩ := trodAll_cons r2
  obtain ⟨v4, vs4, d4, ds4, p4, q4, rfl, rfl, rfl, h4, r4⟩ := trodAll_cons r3
  obtain ⟨v5, vs5, d5, ds5, p5, q5, rfl, rfl, rfl, h5, r5⟩ := trodAll_cons r4
  obtain ⟨rfl, rfl, rfl⟩ := trodAll_nil r5
  obtain rfl : args = #[v0, v1, v2, v3, v4, v5] := by cases args; simp_all
  obtain ⟨rfl, rfl⟩ := trodVars_none hV
  obtain ⟨A0, n0, c0, l0, rfl, s0⟩ := in_nums Try.underlying26 Try.underlying2 (by kernel_rfl) (hval 0 26 v0 rfl rfl) h0
  obtain ⟨a1, rfl, _, _, w1⟩ := open_int Try.underlying2 (hval 1 2 v1 rfl rfl) h1
  obtain ⟨A2, n2, c2, l2, rfl, s2⟩ := in_nums Try.underlying27 Try.underlying21 (by kernel_rfl) (hval 2 27 v2 rfl rfl) h2
  obtain ⟨A3, n3, c3, l3, rfl, s3⟩ := in_nums Try.underlying27 Try.underlying21 (by kernel_rfl) (hval 3 27 v3 rfl rfl) h3
  obtain ⟨a4, rfl, _, _, w4⟩ := open_int Try.underlying3 (hval 4 3 v4 rfl rfl) h4
  obtain ⟨a5, rfl, _, _, w5⟩ := open_int Try.underlying41 (hval 5 41 v5 rfl rfl) h5
  refine (fnWrittenValue_walk A0 n0 c0 l0 a1 w1 A2 n2 c2 l2 A3 n3 c3 l3 a4 w4 a5 w5 W s0 s2 s3).mono fun e W' ⟨he, hb⟩ => ?_
  subst he
  exact ⟨_, rfl, law_post laidOut (by kernel_rfl) rfl hW' rfl rfl rfl (by kernel_rfl) Try.underlying4 hb⟩

theorem over : Rows.fnWrittenValueRow.holds Try.pinned (OpenSpec.ofChange Rows.fnWrittenValueSpec) :=
  OpenClaim.holds_of_wide 9 Try.f9 rfl rfl rfl rfl rfl rfl rfl ⟨rfl, rfl, rfl, rfl, rfl⟩ rfl rfl rfl rfl rfl (by kernel_rfl) Try.func9 (by kernel_rfl)
    (of_decide_eq_true (by kernel_rfl)) (by unfold Func.isWrapper; first | (rw [if_pos (by decide +kernel)]; kernel_rfl) | (rw [if_neg (by decide +kernel)]; exact ⟨rfl, rfl⟩))
    (fun os started H enc _ => lifted os started H enc)

theorem proved : Rows.FnWrittenValueSaid :=
  over
#print axioms proved
end Go.Proofs.Ytmadidaiaggheaa.fnWrittenValue
