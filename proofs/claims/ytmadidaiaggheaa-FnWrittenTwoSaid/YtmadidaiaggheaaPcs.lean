/- Slices of pieces that came in. -/
import Derived.Test.YtmadidaiaggheaaFrame
import Derived.Test.YtmadidaiaggheaaPl
import Derived.Deep.Slices
import Derived.Deep.Fields
namespace Go.Proofs.Ytmadidaiaggheaa
open Go.ChangeShapes Go.WideShapes Go.ChangeAt Go.RowKit Go.Joins Go.Deep

def pcells (ps : List (Int × Int)) : List Value := ps.flatMap fun p => [.int .i32 p.1, .int .u32 p.2]
theorem pcells_cons (p : Int × Int) (r : List (Int × Int)) : pcells (p :: r) = .int .i32 p.1 :: .int .u32 p.2 :: pcells r := rfl
theorem pcells_len (ps : List (Int × Int)) : (pcells ps).length = 2 * ps.length := by
  induction ps with
  | nil => rfl
  | cons p r ih => rw [pcells_cons]; simp only [List.length_cons, ih]; omega
theorem pcells_get {ps : List (Int × Int)} {j : Nat} {u : Value} (h : (pcells ps)[j]? = some u) :
    ∃ k, ∃ hk : k < ps.length, (j = k * 2 ∧ u = .int .i32 (ps[k]).1) ∨ (j = k * 2 + 1 ∧ u = .int .u32 (ps[k]).2) := by
  induction ps generalizing j with
  | nil => simp [pcells] at h
  | cons p r ih =>
    rw [pcells_cons] at h
    match j, h with
    | 0, h => simp at h; subst h; exact ⟨0, by simp, .inl ⟨rfl, rfl⟩⟩
    | 1, h => simp at h; subst h; exact ⟨0, by simp, .inr ⟨rfl, rfl⟩⟩
    | j + 2, h =>
      simp at h
      obtain ⟨k, hk, h⟩ := ih h
      refine ⟨k + 1, by simpa using hk, ?_⟩
      rcases h with ⟨h1, h2⟩ | ⟨h1, h2⟩
      · exact .inl ⟨by omega, by simpa using h2⟩
      · exact .inr ⟨by omega, by simpa using h2⟩
theorem pcells_put {ps : List (Int × Int)} {k : Nat} (hk : k < ps.length) : (pcells ps)[k * 2]? = some (.int .i32 (ps[k]).1) ∧ (pcells ps)[k * 2 + 1]? = some (.int .u32 (ps[k]).2) := by
  induction ps generalizing k with
  | nil => simp at hk
  | cons p r ih =>
    rw [pcells_cons]
    cases k with
    | zero => simp
    | succ k =>
      have := ih (k := k) (by simpa using hk)
      rw [show (k + 1) * 2 = k * 2 + 2 by omega, show k * 2 + 2 + 1 = k * 2 + 1 + 2 by omega]
      simpa using this

/-- A slice of pieces that reads as ps. -/
structure SlP (w : World) (B : Nat) (A : Option Addr) (n c : Nat) (ps : List (Int × Int)) : Prop where
  len : ps.length = n
  cap : n ≤ c
  mx : c ≤ 9223372036854775807
  nil : A = none → c = 0
  rd : Rd w B A (pcells ps)
  ok : ∀ p ∈ ps, PieceOk p

section
variable {w w' : World} {B B' n c : Nat} {A : Option Addr} {ps : List (Int × Int)}
theorem SlP.keep (h : SlP w B A n c ps) (hB : B ≤ B') (hk : ∀ b o, b < B → w'.cell? ⟨b, o, none⟩ = w.cell? ⟨b, o, none⟩) : SlP w' B' A n c ps := ⟨h.len, h.cap, h.mx, h.nil, h.rd.keep hB hk, h.ok⟩
theorem SlP.below (h : SlP w B A n c ps) (hb : Below B w w') : SlP w' B A n c ps := h.keep (Nat.le_refl _) fun b o hlt => hb.cell (p := ⟨b, o, none⟩) hlt
theorem SlP.at_ (h : SlP w B A n c ps) (hn : 0 < n) : ∃ b o, A = some ⟨b, o, none⟩ ∧ b < B ∧ ∀ k (hk : k < ps.length), w.cell? ⟨b, o + k * 2, none⟩ = some (.int .i32 (ps[k]).1) ∧ w.cell? ⟨b, o + k * 2 + 1, none⟩ = some (.int .u32 (ps[k]).2) := by
  rcases h.rd with e | ⟨b, o, e, hb, hc⟩
  · have h1 := pcells_len ps
    have := h.len
    rw [e] at h1
    simp at h1
    omega
  · refine ⟨b, o, e, hb, fun k hk => ?_⟩
    obtain ⟨h1, h2⟩ := pcells_put hk
    exact ⟨hc _ _ h1, by rw [Nat.add_assoc]; exact hc _ _ h2⟩
end

section
variable {H : Type} {enc : TypeId × Value → H}
theorem in_pieces {W : World} {base : Nat} {v : Value} {d : DataW H} {p : List MemPlace} (hval : Value.okWide Try.prog W .any base 35 v) (h : DataW.Trod enc Try.prog W 0 (fun _ => true) true 35 v d p) :
    ∃ (A : Option Addr) (n c : Nat) (ps : List (Int × Int)), v = .slice A n c ∧ SlP W W.heap.size A n c ps := by
  obtain ⟨a, len, cap, rfl⟩ := okWide_slice Try.underlying35 hval
  obtain ⟨fuel, hf⟩ := h
  have hlt := DataW.trod_lt _ _ _ _ hf
  have hC : Try.prog.cellsOf 53 = 2 := by kernel_rfl
  rcases open_slice Try.underlying35 hf with ⟨hcs, hx⟩ | ⟨ad, len', cap', m, n, D, Pl, hcs, _, hl, hm, hmm, hx, hi⟩
  · simp [Value.cells] at hcs
    obtain ⟨rfl, rfl, rfl⟩ := hcs
    exact ⟨none, 0, 0, [], rfl, rfl, Nat.le_refl _, by omega, fun _ => rfl, .inl rfl, by simp⟩
  · simp [Value.cells] at hcs
    obtain ⟨rfl, rfl, rfl⟩ := hcs
    simp only [if_true] at hmm
    have H1 : ∀ i, i < len → ∃ q : Int × Int, W.cell? (ad.add (i * 2 + 0)) = some (.int .i32 q.1) ∧ W.cell? (ad.add (i * 2 + 1)) = some (.int .u32 q.2) ∧ PieceOk q := by
      intro i hilt
      obtain ⟨cs', hc, ht'⟩ := hi i (by omega)
      rw [hC] at hc
      obtain ⟨_, hcl, hat⟩ := World.cells?_some hc
      obtain ⟨y0, y1, n', _, _, g0, g1⟩ := trod_struct2 Try.underlying53 ht'
      match cs', hcl with
      | [c0, c1], _ =>
        have e0 : Try.prog.cellsOf 21 = 1 := by kernel_rfl
        have e1 : Try.prog.cellsOf 28 = 1 := by kernel_rfl
        simp only [e0, e1] at g0 g1
        obtain ⟨x, ex, _, wx⟩ := DataW.trod_int Try.underlying21 g0
        obtain ⟨y, ey, _, wy⟩ := DataW.trod_int Try.underlying28 g1
        simp at ex ey
        subst ex ey
        have h0 := hat 0 (by omega)
        have h1 := hat 1 (by omega)
        rw [Go.Deep.add_add] at h0 h1
        refine ⟨(x, y), h0, h1, ?_⟩
        obtain ⟨b0, b1⟩ := bounds_i32 wx
        obtain ⟨b2, b3⟩ := bounds_u32 wy
        exact ⟨⟨b0, b1⟩, ⟨b2, by show y < _; omega⟩⟩
    obtain ⟨f, hf2⟩ : ∃ f : Nat → Int × Int, ∀ i, i < len → W.cell? (ad.add (i * 2 + 0)) = some (.int .i32 (f i).1) ∧ W.cell? (ad.add (i * 2 + 1)) = some (.int .u32 (f i).2) ∧ PieceOk (f i) :=
      ⟨fun i => if h : i < len then Classical.choose (H1 i h) else (0, 0), fun i hilt => by simp only [dif_pos hilt]; exact Classical.choose_spec (H1 i hilt)⟩
    refine ⟨some ad, len, cap, (List.range len).map f, rfl, by simp, hl, by simpa [maxLen] using hm, (fun e => by cases e), ?_, ?_⟩
    · by_cases h0 : len = 0
      · subst h0; exact .inl rfl
      · obtain ⟨ab, ao, spot⟩ := ad
        have hspot : spot = none := by
          have := World.cell?_spot (hf2 0 (by omega)).1
          simpa [Addr.add] using this
        subst hspot
        refine .inr ⟨ab, ao, rfl, ?_, fun j u hu => ?_⟩
        · simp only [Prod.mk.injEq] at hx
          have := hlt (.cell ab (ao + 0)) (by
            show _ ∈ p
            rw [hx.2]
            refine List.mem_append_left _ ?_
            simp only [MemPlace.row, List.mem_map, List.mem_range]; exact ⟨0, by rw [hC]; omega, rfl⟩)
          exact this
        · obtain ⟨k, hk, h⟩ := pcells_get hu
          have hk' : k < len := by simpa using hk
          obtain ⟨q1, q2, _⟩ := hf2 k hk'
          rw [Addr.add_lit] at q1 q2
          rcases h with ⟨rfl, rfl⟩ | ⟨rfl, rfl⟩
          · simpa using q1
          · simpa using q2
    · intro q hq
      simp only [List.mem_map, List.mem_range] at hq
      obtain ⟨i, hi1, rfl⟩ := hq
      exact (hf2 i hi1).2.2
end
end Go.Proofs.Ytmadidaiaggheaa
