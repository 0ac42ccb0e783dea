/-
  For every input the law FnDoubleWord returns true and leaves its arguments as they were, where the tables of math/bits are as the program text lays them; no other condition.
  The frame is the kit's (UptoLaidToy.lean of the seat, its shell for the arguments); the walk is mine.
-/
import Derived.Test.YticennjldlbpfaaDoorCards
import Derived.Test.YticennjldlbpfaaDoorTie
import Derived.WalkKit
import Derived.ProofKit
import Derived.OpenShut
import Derived.Deep.DeepHandedRow
import Derived.Lib.LaidTab
import Derived.Test.YticennjldlbpfaaDoorWordMore
namespace Go.Proofs.YticennjldlbpfaaDoor.fnDoubleWord
open Go.ChangeShapes Go.WideShapes Go.ChangeAt Go.RowKit
set_option linter.unusedVariables false

theorem own : ownKnob Tryd.prog.godebug = none := by kernel_rfl
theorem cellsE : Tryd.prog.cellsOf 5 = 1 := by kernel_rfl
theorem gTab0 : Tryd.prog.globalNamed "math/bits.deBruijn32tab" = some 0 := by kernel_rfl
theorem gTabType0 : (Tryd.prog.globals[0]?).map (·.type) = some 37 := by kernel_rfl
theorem cellsT0 : Tryd.prog.cellsOf 37 = 32 := by kernel_rfl
def nums0 : List Int := [0, 1, 28, 2, 29, 14, 24, 3, 30, 22, 20, 15, 25, 17, 4, 8, 31, 27, 13, 23, 21, 19, 16, 7, 26, 12, 18, 6, 11, 5, 10, 9]
theorem gTab1 : Tryd.prog.globalNamed "math/bits.deBruijn64tab" = some 1 := by kernel_rfl
theorem gTabType1 : (Tryd.prog.globals[1]?).map (·.type) = some 39 := by kernel_rfl
theorem cellsT1 : Tryd.prog.cellsOf 39 = 64 := by kernel_rfl
def nums1 : List Int := [0, 1, 56, 2, 57, 49, 28, 3, 61, 58, 42, 50, 38, 29, 17, 4, 62, 47, 59, 36, 45, 43, 51, 22, 53, 39, 33, 30, 24, 18, 12, 5, 63, 55, 48, 27, 60, 41, 37, 16, 46, 35, 44, 21, 52, 32, 23, 11, 54, 26, 40, 15, 34, 20, 31, 10, 25, 14, 19, 9, 13, 8, 7, 6]
theorem laid_tail {P : Program} {W : World} {x : String × DataW Unit} {rest : List (String × DataW Unit)} (h : laidMet P (x :: rest) W) : laidMet P rest W := by
  obtain ⟨n, d⟩ := x
  obtain ⟨ps, ⟨g, t, cs, fuel, p, q, hg, ht, hv, hd, htail, rfl⟩, hn, hall⟩ := h
  exact ⟨q, htail, (List.nodup_append.1 hn).2.1, fun b off hm => hall b off (List.mem_append.2 (.inr hm))⟩
theorem table0 {W : World} (h : laidMetH Tryd.prog Rows.fnDoubleWordRow.laid W) : Lib.TabIs Tryd.prog W "math/bits.deBruijn32tab" .u8 nums0 :=
  Lib.tabIs_of_head (rest := [("math/bits.deBruijn64tab", Rows.laid_math_bits_deBruijn64tab)]) gTab0 gTabType0 Tryd.underlying37 Tryd.underlying5 cellsE cellsT0 h
theorem chk0 : ((List.range 32).all fun i => nums0.getD i 0 == ((Lib.deBruijn32tab.getD i 0 : Nat) : Int)) = true := by decide +kernel
theorem facts0 {W : World} (h : laidMetH Tryd.prog Rows.fnDoubleWordRow.laid W) : Tab32 W := by
  intro i hi
  have h1 := (table0 h).cell gTab0 i hi
  have h2 := List.all_eq_true.1 chk0 i (List.mem_range.2 hi)
  rw [beq_iff_eq] at h2
  rw [h1, h2]
theorem table1 {W : World} (h : laidMetH Tryd.prog Rows.fnDoubleWordRow.laid W) : Lib.TabIs Tryd.prog W "math/bits.deBruijn64tab" .u8 nums1 :=
  Lib.tabIs_of_head (rest := []) gTab1 gTabType1 Tryd.underlying39 Tryd.underlying5 cellsE cellsT1 (laid_tail (x := ("math/bits.deBruijn32tab", Rows.laid_math_bits_deBruijn32tab)) (rest := [("math/bits.deBruijn64tab", Rows.laid_math_bits_deBruijn64tab)]) h)
theorem chk1 : ((List.range 64).all fun i => nums1.getD i 0 == ((Lib.deBruijn64tab.getD i 0 : Nat) : Int)) = true := by decide +kernel
theorem facts1 {W : World} (h : laidMetH Tryd.prog Rows.fnDoubleWordRow.laid W) : Tab64 W := by
  intro i hi
  have h1 := (table1 h).cell gTab1 i hi
  have h2 := List.all_eq_true.1 chk1 i (List.mem_range.2 hi)
  rw [beq_iff_eq] at h2
  rw [h1, h2]

theorem contract (H : Type) (enc : TypeId × Value → H) (W : World) (base : Nat) (args : Array Value) (ds gs : List (DataW H)) (before : List MemPlace)
    (hval : ∀ (j : Nat) t v, Tryd.f9.params[j]? = some t → args[j]? = some v → Value.okWide Tryd.prog W .any base t v)
    (hW : DataW.Whole enc Tryd.prog Tryd.f9.params.toList Rows.fnDoubleWordSpec.vars false W args.toList ds gs before) (hL : laidMetH Tryd.prog Rows.fnDoubleWordRow.laid W) :
    Calls Tryd.prog 9 args W fun e W' => ∃ v, e = .returned v ∧ Rows.fnDoubleWordSpec.post enc Tryd.prog Tryd.f9 false true false false W args v W' := by
  have hW' := hW
  obtain ⟨p, q, hA0, hV, rfl, hfz, hnd⟩ := hW
  have hA : DataW.TrodAll enc Tryd.prog W 0 (fun _ => true) true Tryd.f9.params.toList args.toList ds p := hA0
  rw [Tryd.params9] at hA hval
  obtain ⟨v0, vs0, d0, ds0, p0, q0, hargs, rfl, rfl, h0, r0⟩ := trodAll_cons hA
  obtain ⟨rfl, rfl, rfl⟩ := trodAll_nil r0
  obtain rfl : args = #[v0] := by cases args; simp_all
  obtain ⟨rfl, rfl⟩ := trodVars_none hV
  obtain ⟨a0, rfl, rfl, rfl, w0⟩ := open_int Tryd.underlying22 (hval 0 22 v0 rfl rfl) h0
  clear hA0
  simp only [List.append_nil] at hW'
  refine (fnDoubleWord_walk a0 w0 W (facts0 hL) (facts1 hL)).mono fun e W' ⟨he, hg⟩ => ?_
  subst he
  exact ⟨_, rfl, post_of_same (pa := []) (pv := []) hW' (fun _ _ _ => (trodAll_cons_mk (shut_bool Tryd.underlying4 _) trodAll_mk0)) (fun _ _ => (trodAll_cons_mk (shut_int Tryd.underlying22 w0) trodAll_mk0)) (fun _ _ => rfl) rfl
    (hg.frame _) hg.2.1 (ok_one (by kernel_rfl) rfl (okWide_bool_mk Tryd.underlying4 _))⟩

noncomputable def laidWorld (os : Os) : World :=
  { World.holding Tryd.prog os ⟨#[], #[], []⟩ with heap := (((World.holding Tryd.prog os ⟨#[], #[], []⟩).heap).modify 0 (fun | .cells _ t frozen => .cells #[.int .u8 0, .int .u8 1, .int .u8 28, .int .u8 2, .int .u8 29, .int .u8 14, .int .u8 24, .int .u8 3, .int .u8 30, .int .u8 22, .int .u8 20, .int .u8 15, .int .u8 25, .int .u8 17, .int .u8 4, .int .u8 8, .int .u8 31, .int .u8 27, .int .u8 13, .int .u8 23, .int .u8 21, .int .u8 19, .int .u8 16, .int .u8 7, .int .u8 26, .int .u8 12, .int .u8 18, .int .u8 6, .int .u8 11, .int .u8 5, .int .u8 10, .int .u8 9] t frozen | o => o)).modify 1 (fun | .cells _ t frozen => .cells #[.int .u8 0, .int .u8 1, .int .u8 56, .int .u8 2, .int .u8 57, .int .u8 49, .int .u8 28, .int .u8 3, .int .u8 61, .int .u8 58, .int .u8 42, .int .u8 50, .int .u8 38, .int .u8 29, .int .u8 17, .int .u8 4, .int .u8 62, .int .u8 47, .int .u8 59, .int .u8 36, .int .u8 45, .int .u8 43, .int .u8 51, .int .u8 22, .int .u8 53, .int .u8 39, .int .u8 33, .int .u8 30, .int .u8 24, .int .u8 18, .int .u8 12, .int .u8 5, .int .u8 63, .int .u8 55, .int .u8 48, .int .u8 27, .int .u8 60, .int .u8 41, .int .u8 37, .int .u8 16, .int .u8 46, .int .u8 35, .int .u8 44, .int .u8 21, .int .u8 52, .int .u8 32, .int .u8 23, .int .u8 11, .int .u8 54, .int .u8 26, .int .u8 40, .int .u8 15, .int .u8 34, .int .u8 20, .int .u8 31, .int .u8 10, .int .u8 25, .int .u8 14, .int .u8 19, .int .u8 9, .int .u8 13, .int .u8 8, .int .u8 7, .int .u8 6] t frozen | o => o) }
theorem laid_met (os : Os) : laidMet Tryd.prog Rows.fnDoubleWordRow.laid ((laidWorld os).forCall (fun _ _ => 0) ⟨#[], #[.int .u32 0], []⟩).memory :=
  laidMet_of_run' 8 (by kernel_rfl) (by kernel_rfl)
theorem reads (os : Os) {H : Type} (enc : TypeId × Value → H) : ∃ places, DataW.whole enc Tryd.prog ((laidWorld os).forCall (fun _ _ => 0) ⟨#[], #[.int .u32 0], []⟩).memory Tryd.f9.params.toList Rows.fnDoubleWordSpec.vars false #[.int .u32 0].toList 8 = some ([.lit (.int .u32 0)], [], places) :=
  ⟨[], by kernel_rfl⟩

set_option maxRecDepth 100000 in
theorem lifted (os : Os) (started : os.Started) (H : Type) (enc : TypeId × Value → H) (F : Stop.Interp) :
    ReturnsInHanded {} Tryd.checked os 9 .any ((OpenSpec.ofChange Rows.fnDoubleWordSpec).preRow enc Tryd.prog Tryd.f9 Rows.fnDoubleWordRow.domain false Rows.fnDoubleWordRow.laid) (((OpenSpec.ofChange Rows.fnDoubleWordSpec).at F).post enc Tryd.prog Tryd.f9 false true false false) := by
  obtain ⟨places, hx⟩ := reads os enc
  refine returnsInHanded_of_row (C := Tryd.checked) (s := OpenSpec.ofChange Rows.fnDoubleWordSpec) own started (by kernel_rfl) Tryd.func9
    (witness_row_at (enc := enc) (C := Tryd.checked) false (laidWorld os) #[.int .u32 0] rfl (by kernel_rfl) (by kernel_rfl) (by kernel_rfl)
      (OpenSpec.preRow_of_cond 8 hx (by kernel_rfl) (fun k hk => by cases hk) (by kernel_rfl) (laid_met os))) ?_
  intro W base args ds gs before hval hW _ _ _ hL _ _
  exact contract H enc W base args ds gs before hval hW hL

theorem said : Rows.FnDoubleWordSaid :=
  OpenClaim.holds_of_cond 9 Tryd.f9 rfl rfl rfl rfl rfl rfl rfl ⟨rfl, rfl, rfl, rfl, rfl⟩ rfl rfl rfl rfl rfl (by kernel_rfl) Tryd.func9 (by kernel_rfl)
    (of_decide_eq_true (by kernel_rfl)) (by unfold Func.isWrapper; first | (rw [if_pos (by decide +kernel)]; kernel_rfl) | (rw [if_neg (by decide +kernel)]; exact ⟨rfl, rfl⟩))
    (fun os started H enc _ F => by rw [OpenClaim.pre_eq_preRow]; exact lifted os started H enc F)

theorem plain (f : FuncId) (fn : Func) (hf : Tryd.pinned.checked.prog.funcNamed "loop.example/pub-g01458/laws.FnDoubleWord" = some f) (hfn : Tryd.pinned.checked.prog.funcs[f]? = some fn) :
    false = Tryd.pinned.checked.prog.looks [] ∧ ∀ (j : Nat) t, fn.params[j]? = some t → Tryd.pinned.checked.prog.wantsStandIn t = false := by
  obtain rfl : f = 9 := Option.some.inj ((show Tryd.prog.funcNamed "loop.example/pub-g01458/laws.FnDoubleWord" = some 9 by kernel_rfl).symm.trans hf) |>.symm
  obtain rfl : fn = Tryd.f9 := (Option.some.inj (Tryd.func9.symm.trans hfn)).symm
  refine ⟨by kernel_rfl, fun j t ht => ?_⟩
  rw [Tryd.params9] at ht
  have hm := Array.mem_of_getElem? ht
  simp only [List.mem_toArray, List.mem_cons, List.not_mem_nil, or_false] at hm
  rcases hm with rfl
  all_goals (first
    | exact (show Tryd.prog.wantsStandIn 22 = false by kernel_rfl))

/-- The card. -/
theorem card : Rows.FnDoubleWordCardSaid :=
  Claim7.holds_tied_plain_at .later [] _ _ _ _ said (fun _ h => by cases h) (by kernel_rfl) (fun _ h => by cases h) fnDoubleWord_row_tie rfl ⟨rfl, rfl⟩ (by kernel_rfl) rfl plain (by kernel_rfl)
#print axioms card
end Go.Proofs.YticennjldlbpfaaDoor.fnDoubleWord
