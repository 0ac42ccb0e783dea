/-
  For every input the law FnStep returns true and leaves its arguments as they were; no condition.
  The walk is mine; the row's step is after the kit's shell (proof-skeleton.mjs).
-/
import Derived.Test.YtmnjcngjhpdmeaaRows
import Derived.Test.YtmnjcngjhpdmeaaFrame
import Derived.Test.YtmnjcngjhpdmeaaStepLaws
namespace Go.Proofs.Ytmnjcngjhpdmeaa.fnStep
open Go.ChangeShapes Go.WideShapes Go.ChangeAt Go.RowKit

theorem own : ownKnob Try.prog.godebug = none := by kernel_rfl

set_option maxRecDepth 100000 in
theorem lifted (os : Os) (started : os.Started) (H : Type) (enc : TypeId × Value → H) :
    ReturnsInHanded {} Try.checked os 6 .any (Rows.fnStepSpec.pre6 enc Try.prog Try.f6 Rows.fnStepRow.domain false) (Rows.fnStepSpec.post enc Try.prog Try.f6 false true false false) := by
  refine returnsInHanded_of_change (C := Try.checked) own started (by kernel_rfl) Try.func6
    (ChangeSpec.witness6 (enc := enc) (C := Try.checked) false ⟨#[], #[.int .u32 0, .int .i32 0, .int .u32 0, .slice none 0 0, .agg #[.int .u64 0, .int .i32 0], .bool false], []⟩ 8 (by kernel_rfl) (by kernel_rfl) (by kernel_rfl) (by kernel_rfl)) ?_
  intro W base args ds gs before hval0 hW _ _
  have hval : ∀ (j : Nat) t v, Try.f6.params[j]? = some t → args[j]? = some v → Value.okWide Try.prog W .any base t v := hval0
  have hW' := hW
  obtain ⟨p, q, hA0, hV, rfl, _, _⟩ := hW
  have hA : DataW.TrodAll enc Try.prog W 0 (fun _ => true) true Try.f6.params.toList args.toList ds p := hA0
  rw [Try.params6] at hA hval
  obtain ⟨v0, vs0, d0, ds0, p0, q0, hargs, rfl, rfl, h0, r0⟩ := trodAll_cons hA
  obtain ⟨v1, vs1, d1, ds1, p1, q1, rfl, rfl, rfl, h1, r1⟩ := trodAll_cons r0
  obtain ⟨v2, vs2, d2, ds2, p2, q2, rfl, rfl, rfl, h2, r2⟩ := trodAll_cons r1
  obtain ⟨v3, vs3, d3, ds3, p3, q3, rfl, rfl, rfl, h3, r3⟩ := trodAll_cons r2
  obtain ⟨v4, vs4, d4, ds4, p4, q4, rfl, rfl, rfl, h4, r4⟩ := trodAll_cons r3
  obtain ⟨v5, vs5, d5, ds5, p5, q5, rfl, rfl, rfl, h5, r5⟩ := trodAll_cons r4
  obtain ⟨rfl, rfl, rfl⟩ := trodAll_nil r5
  obtain rfl : args = #[v0, v1, v2, v3, v4, v5] := by cases args; simp_all
  obtain ⟨rfl, rfl⟩ := trodVars_none hV
  obtain ⟨a0, rfl, _, _, w0⟩ := open_int Try.underlying22 (hval 0 22 v0 rfl rfl) h0
  obtain ⟨a1, rfl, _, _, w1⟩ := open_int Try.underlying21 (hval 1 21 v1 rfl rfl) h1
  obtain ⟨a2, rfl, _, _, w2⟩ := open_int Try.underlying22 (hval 2 22 v2 rfl rfl) h2
  obtain ⟨A3, n3, c3, l3, rfl, s3⟩ := in_bytes Try.underlying23 Try.underlying5 (by kernel_rfl) (hval 3 23 v3 rfl rfl) h3
  obtain ⟨a4, b4, rfl, w4, x4⟩ := in_pair Try.underlying33 (by kernel_rfl) (by kernel_rfl) Try.underlying31 Try.underlying21 (hval 4 33 v4 rfl rfl) h4
  obtain ⟨a5, rfl, _, _⟩ := open_bool Try.underlying4 (hval 5 4 v5 rfl rfl) h5
  refine (fnStep_walk a0 w0 a1 w1 a2 w2 A3 n3 c3 l3 a4 b4 w4 x4 a5 W s3).mono fun e W' ⟨he, hb⟩ => ?_
  subst he
  exact ⟨_, rfl, law_post laidOut (by kernel_rfl) rfl hW' rfl rfl rfl (by kernel_rfl) Try.underlying4 hb⟩

theorem over : Rows.fnStepRow.holds Try.pinned (OpenSpec.ofChange Rows.fnStepSpec) :=
  OpenClaim.holds_of_wide 6 Try.f6 rfl rfl rfl rfl rfl rfl rfl ⟨rfl, rfl, rfl, rfl, rfl⟩ rfl rfl rfl rfl rfl (by kernel_rfl) Try.func6 (by kernel_rfl)
    (of_decide_eq_true (by kernel_rfl)) (by unfold Func.isWrapper; first | (rw [if_pos (by decide +kernel)]; kernel_rfl) | (rw [if_neg (by decide +kernel)]; exact ⟨rfl, rfl⟩))
    (fun os started H enc _ => lifted os started H enc)

theorem proved : Rows.FnStepSaid :=
  over
#print axioms proved
end Go.Proofs.Ytmnjcngjhpdmeaa.fnStep
