/- The frame of a law whose call leaves all that was there as it was: the arguments read behind it as before; what slices that came in read as. -/
import Derived.Test.YtmadidaiaggheaaMem
import Derived.ProofKit
import Derived.WideKeyArgs
import Derived.ChangeSlices
import Derived.Lib.SmallJoins
namespace Go.Proofs.Ytmadidaiaggheaa
open Go.ChangeShapes Go.WideShapes Go.ChangeAt Go.RowKit Go.Joins Go.Deep

section
variable {H : Type} {enc : TypeId × Value → H} {P : Program}

theorem all_stays (hl : laidOutB P = true) {W W' : World} {sp : Nat → Bool} : ∀ {ts : List TypeId} {vs : List Value} {ds : List (DataW H)} {ps : List MemPlace}, (∀ t ∈ ts, P.readableRec t = true ∧ t < P.types.size) →
    DataW.TrodAll enc P W 0 (fun _ => true) true ts vs ds ps → (∀ p ∈ ps, W.sameAt W' p) → (∀ p ∈ ps, sp p.block = true) → DataW.TrodAll enc P W' 0 sp true ts vs ds ps
  | [], [], [], _, _, h, _, _ => h
  | _ :: _, _ :: _, _ :: _, _, hT, ⟨p, q, h1, h2, e⟩, hs, hb =>
    ⟨p, q, WideElems.Trod_stays hl (hT _ (List.mem_cons.2 (.inl rfl))).1 (hT _ (List.mem_cons.2 (.inl rfl))).2 h1 (fun x hx => hs x (by rw [e]; exact List.mem_append_left _ hx)) (fun x hx => hb x (by rw [e]; exact List.mem_append_left _ hx)),
      all_stays hl (fun t ht => hT t (List.mem_cons.2 (.inr ht))) h2 (fun x hx => hs x (by rw [e]; exact List.mem_append_right _ hx)) (fun x hx => hb x (by rw [e]; exact List.mem_append_right _ hx)), e⟩

/-- The post of a law: it returned true, and what was there is as it was. -/
theorem law_post {f : Func} {s : ChangeSpec} {W W' : World} {args : Array Value} {ds gs : List (DataW H)} {before : List MemPlace} {bt : TypeId} (hl : laidOutB P = true)
    (hread : (f.params.toList.all fun t => P.readableRec t && decide (t < P.types.size)) = true) (hvars : s.vars = []) (hW : DataW.Whole enc P f.params.toList s.vars false W args.toList ds gs before)
    (hr : (s.fn H (ds ++ gs)).results = [.lit (.bool true)]) (ha : (s.fn H (ds ++ gs)).args = ds) (hv : (s.fn H (ds ++ gs)).vars = []) (hf : f.resultTypes = #[bt]) (hbt : P.underlying bt = some .bool) (hb : Below W.heap.size W W') :
    s.post enc P f false true false false W args (.bool true) W' := by
  have hlt : ∀ p ∈ before, p.block < W.heap.size := fun p hp => hW.lt p hp
  have hW' := hW
  obtain ⟨p, q, hA, hV, rfl, _, _⟩ := hW
  rw [hvars] at hV
  obtain ⟨rfl, rfl⟩ := trodVars_none hV
  refine ⟨ds, [], _, [], p, [], hW', ?_, ?_, ?_, World.keptBut_mono (fun x hx => ⟨hx, ?_⟩) (hb.frame (· ∈ p ++ [])), fun h => by cases h⟩
  · rw [hr, hf]
    exact trodAll_mk1 (shut_bool hbt true)
  · rw [ha]
    refine all_stays hl (fun t ht => ?_) hA (fun x hx => hb.same (hlt x (by simpa using hx))) (fun x hx => by simpa using hlt x (by simpa using hx))
    have := List.all_eq_true.1 hread t ht
    simp only [Bool.and_eq_true, decide_eq_true_eq] at this
    exact this
  · rw [hvars, hv]; rfl
  · exact .inr (.inl (by simpa using hx))

/-- A slice of numbers that came in. -/
theorem in_ints {W : World} {base : Nat} {t e : TypeId} {k : IntKind} {v : Value} {d : DataW H} {p : List MemPlace} (ht : P.underlying t = some (.slice e)) (he : P.underlying e = some (.int k)) (hc : P.cellsOf e = 1)
    (hval : Value.okWide P W .any base t v) (h : DataW.Trod enc P W 0 (fun _ => true) true t v d p) :
    ∃ (A : Option Addr) (n c : Nat) (zs : List Int), v = .slice A n c ∧ zs.length = n ∧ n ≤ c ∧ c ≤ 9223372036854775807 ∧ (A = none → c = 0) ∧ Rd W W.heap.size A (zs.map (Value.int k)) ∧ ∀ z ∈ zs, (Lit.int k z).wf = true := by
  obtain ⟨a, len, cap, rfl⟩ := okWide_slice ht hval
  obtain ⟨fuel, hf⟩ := h
  have hlt := DataW.trod_lt _ _ _ _ hf
  rcases open_ints ht he hc hf with ⟨hcs, hx⟩ | ⟨ad, len', cap', zs, hcs, _, hl, hm, hz, hx, hcell, hwz⟩
  · simp [Value.cells] at hcs
    obtain ⟨rfl, rfl, rfl⟩ := hcs
    exact ⟨none, 0, 0, [], rfl, rfl, Nat.le_refl _, by omega, fun _ => rfl, .inl rfl, by simp⟩
  · simp [Value.cells] at hcs
    obtain ⟨rfl, rfl, rfl⟩ := hcs
    simp only [Prod.mk.injEq] at hx
    obtain ⟨rfl, rfl⟩ := hx
    simp only [if_true] at hz
    refine ⟨some ad, len, cap, zs.take len, rfl, by simp; omega, hl, by simpa [maxLen] using hm, (fun e => by cases e), ?_, fun z hz => hwz z (List.mem_of_mem_take hz)⟩
    by_cases h0 : len = 0
    · subst h0; exact .inl (by simp)
    · obtain ⟨ab, ao, spot⟩ := ad
      have hspot : spot = none := by simpa [Addr.add] using World.cell?_spot (hcell 0 (by omega))
      subst hspot
      refine .inr ⟨ab, ao, rfl, ?_, fun j u hu => ?_⟩
      · exact hlt (.cell ab (ao + 0)) (by simp only [MemPlace.row, List.mem_map, List.mem_range]; exact ⟨0, by omega, rfl⟩)
      · have hj : j < len := by
          rcases Nat.lt_or_ge j len with h | h
          · exact h
          · rw [List.getElem?_eq_none (by simp; omega)] at hu; cases hu
        have := hcell j (by omega)
        rw [Addr.add_lit] at this
        rw [this]
        simp [hj] at hu
        obtain ⟨z, hz1, rfl⟩ := hu
        simp [List.getD, hz1]

/-- A slice of bytes that came in. -/
theorem in_bytes {W : World} {base : Nat} {t e : TypeId} {v : Value} {d : DataW H} {p : List MemPlace} (ht : P.underlying t = some (.slice e)) (he : P.underlying e = some (.int .u8)) (hc : P.cellsOf e = 1)
    (hval : Value.okWide P W .any base t v) (h : DataW.Trod enc P W 0 (fun _ => true) true t v d p) : ∃ (A : Option Addr) (n c : Nat) (l : List UInt8), v = .slice A n c ∧ Sl W W.heap.size A n c l := by
  obtain ⟨A, n, c, zs, rfl, h1, h2, h3, h4, h5, h6⟩ := in_ints ht he hc hval h
  have e : Lib.byteCells (zs.map fun z => UInt8.ofNat z.toNat) = zs.map (Value.int .u8) := by
    unfold Lib.byteCells
    rw [List.map_map]
    apply List.map_congr_left
    intro z hz
    have := h6 z hz
    simp [Lit.wf, IntKind.min, IntKind.max, IntKind.signed, IntKind.bits] at this
    simp only [Function.comp_apply, UInt8.toNat_ofNat']
    congr 1
    omega
  exact ⟨A, n, c, zs.map fun z => UInt8.ofNat z.toNat, rfl, by simpa using h1, h2, h3, h4, by rw [e]; exact h5⟩
end

section
variable {H : Type} {enc : TypeId × Value → H} {P : Program}
/-- A struct of two numbers that came in by value. -/
theorem in_pair {W : World} {base : Nat} {t : TypeId} {f0 f1 : Field} {k0 k1 : IntKind} {v : Value} {d : DataW H} {p : List MemPlace} (ht : P.underlying t = some (.struct #[f0, f1])) (hone : oneCellFields P #[f0, f1] = true) (hC : P.cellsOf t = 2)
    (h0 : P.underlying f0.type = some (.int k0)) (h1 : P.underlying f1.type = some (.int k1)) (hval : Value.okWide P W .any base t v) (h : DataW.Trod enc P W 0 (fun _ => true) true t v d p) :
    ∃ a b : Int, v = .agg #[.int k0 a, .int k1 b] ∧ (Lit.int k0 a).wf = true ∧ (Lit.int k1 b).wf = true := by
  obtain ⟨v0, v1, y0, y1, n, rfl, _, _, g0, g1⟩ := open_agg2 ht hone hC hval h
  obtain ⟨a, e0, _, w0⟩ := DataW.trod_int h0 g0
  obtain ⟨b, e1, _, w1⟩ := DataW.trod_int h1 g1
  simp at e0 e1
  subst e0 e1
  exact ⟨a, b, rfl, w0, w1⟩

/-- A slice of numbers. -/
structure SlN (w : World) (B : Nat) (k : IntKind) (A : Option Addr) (n c : Nat) (zs : List Int) : Prop where
  len : zs.length = n
  cap : n ≤ c
  mx : c ≤ 9223372036854775807
  nil : A = none → c = 0
  rd : Rd w B A (zs.map (Value.int k))
  wf : ∀ z ∈ zs, (Lit.int k z).wf = true
theorem in_nums {W : World} {base : Nat} {t e : TypeId} {k : IntKind} {v : Value} {d : DataW H} {p : List MemPlace} (ht : P.underlying t = some (.slice e)) (he : P.underlying e = some (.int k)) (hc : P.cellsOf e = 1)
    (hval : Value.okWide P W .any base t v) (h : DataW.Trod enc P W 0 (fun _ => true) true t v d p) : ∃ (A : Option Addr) (n c : Nat) (zs : List Int), v = .slice A n c ∧ SlN W W.heap.size k A n c zs := by
  obtain ⟨A, n, c, zs, rfl, h1, h2, h3, h4, h5, h6⟩ := in_ints ht he hc hval h
  exact ⟨A, n, c, zs, rfl, h1, h2, h3, h4, h5, h6⟩
end

theorem laidOut : laidOutB Try.prog = true := by kernel_rfl
end Go.Proofs.Ytmadidaiaggheaa
