/- What funcpctab finds in memory and what it keeps there. -/
import Derived.Test.YtmadidaiaggheaaVal0
import Derived.Test.YtmadidaiaggheaaPlW
import Derived.Test.YtmadidaiaggheaaTab
import Derived.Lib.EndianMore
namespace Go.Proofs.Ytmadidaiaggheaa
open Go.RowKit
set_option linter.unusedVariables false

/-- A buffer of five bytes. -/
def Buf (w : World) (g : Nat) : Prop := ∃ cs : Array Value, cs.size = 5 ∧ w.heap[g]? = some (.cells cs 5 (0, 0))
theorem heap_setCells (b : Nat) : ∀ (vs : List Value) (o : Nat) (w : World) (cs : Array Value) (t : TypeId), w.heap[b]? = some (.cells cs t (0, 0)) → ∃ cs' : Array Value, cs'.size = cs.size ∧ (w.setCells b o vs).heap[b]? = some (.cells cs' t (0, 0))
  | [], _, w, cs, t, h => ⟨cs, rfl, h⟩
  | v :: r, o, w, cs, t, h => by
    obtain ⟨cs', h1, h2⟩ := heap_setCells b r (o + 1) (w.setCell ⟨b, o, none⟩ v) _ t (heap_set h o v)
    exact ⟨cs', by simpa using h1, h2⟩
theorem size_setCells (b : Nat) : ∀ (vs : List Value) (o : Nat) (w : World), (w.setCells b o vs).heap.size = w.heap.size
  | [], _, _ => rfl
  | v :: r, o, w => by rw [World.setCells, size_setCells b r]; simp [World.setCell]
theorem kept_setCells (b : Nat) : ∀ (vs : List Value) (o : Nat) (w : World), KeptG w (w.setCells b o vs) b
  | [], _, w => KeptG.refl w b
  | v :: r, o, w => (KeptG.set b o v).trans (kept_setCells b r (o + 1) _)
theorem Buf.cells {w : World} {g : Nat} (h : Buf w g) (j : Nat) (hj : j < 5) : (w.cell? ⟨g, 0 + j, none⟩).isSome = true ∧ w.frozen? ⟨g, 0 + j, none⟩ = false := by
  obtain ⟨cs, hs, hb⟩ := h
  refine ⟨?_, by simp [World.frozen?, hb]⟩
  rw [cell_of_row w g (0 + j) _ _ _ hb, Array.getElem?_eq_getElem (by omega)]
  rfl
theorem Buf.put {w : World} {g : Nat} (h : Buf w g) (vs : List Value) : Buf (w.setCells g 0 vs) g := by
  obtain ⟨cs, hs, hb⟩ := h
  obtain ⟨cs', h1, h2⟩ := heap_setCells g vs 0 w cs _ hb
  exact ⟨cs', by omega, h2⟩
theorem Buf.lt {w : World} {g : Nat} (h : Buf w g) : g < w.heap.size := by
  obtain ⟨cs, _, hb⟩ := h
  exact (Array.getElem?_eq_some_iff.1 hb).1
/-- The front of the buffer behind a put. -/
theorem Buf.sl {w : World} {g : Nat} (h : Buf w g) (l : List UInt8) (hl : l.length ≤ 5) : Sl (w.setCells g 0 (Lib.byteCells l)) w.heap.size (some ⟨g, 0, none⟩) l.length 5 l := by
  refine ⟨rfl, hl, by omega, fun e => (by cases e), .inr ⟨g, 0, rfl, h.lt, fun j u hu => ?_⟩⟩
  have hj : j < (Lib.byteCells l).length := by
    rcases Nat.lt_or_ge j (Lib.byteCells l).length with h | h
    · exact h
    · rw [List.getElem?_eq_none h] at hu; cases hu
  rw [World.cell?_setCells_in g (Lib.byteCells l) 0 w (fun i hi => (h.cells i (by rw [Lib.byteCells_length] at hi; omega)).1) j hj]
  rw [List.getElem?_eq_getElem hj] at hu
  exact hu

/-- The block of the empty symbol. -/
def SymB (w : World) (g : Nat) : Prop := w.heap[g]? = some (.cells #[.int .i64 0, .slice none 0 0, .pointer none] 71 (0, 0))

/-- The instruction behind instruction i. -/
def nxt (n G i : Nat) : Option Addr := if i < n then some ⟨G + i, 0, none⟩ else none

/-- What the writer reads: the link, the function, its instructions, the values before and behind them. All of it lies below block B. -/
structure PM (w : World) (B n gc ga gs gf G gb gh bA oA cA bB oB cB : Nat) (pcs : List Int) (size m : Int) (before behind : List Int) : Prop where
  c1 : w.cell? ⟨gc, 0, none⟩ = some (.pointer (some ⟨ga, 0, none⟩))
  c2 : w.cell? ⟨ga, 0, none⟩ = some (.int .i64 m)
  c3 : w.cell? ⟨gs, 0, none⟩ = some (.int .i64 size)
  c4 : w.cell? ⟨gs, 2, none⟩ = some (.pointer (some ⟨gf, 0, none⟩))
  c5 : w.cell? ⟨gf, 0, none⟩ = some (.pointer (some ⟨G, 0, none⟩))
  pr : ∀ i, i < n → w.cell? ⟨G + i, 0, none⟩ = some (.int .i64 (pAt pcs size i)) ∧ w.cell? ⟨G + i, 1, none⟩ = some (.pointer (nxt n G (i + 1))) ∧ w.cell? ⟨G + i, 2, none⟩ = some (.int .i64 i)
  va : w.cell? ⟨gb, 0, none⟩ = some (.slice (some ⟨bA, oA, none⟩) n cA)
  vac : ∀ i, i < n → w.cell? ⟨bA, oA + i, none⟩ = some (.int .i32 (vAt before i))
  vb : w.cell? ⟨gh, 0, none⟩ = some (.slice (some ⟨bB, oB, none⟩) n cB)
  vbc : ∀ i, i < n → w.cell? ⟨bB, oB + i, none⟩ = some (.int .i32 (vAt behind i))
  l1 : gc < B
  l2 : ga < B
  l3 : gs < B
  l4 : gf < B
  l5 : G + n ≤ B
  l6 : gb < B
  l7 : gh < B
  l8 : bA < B
  l9 : bB < B
theorem PM.below {w w' : World} {B n gc ga gs gf G gb gh bA oA cA bB oB cB : Nat} {pcs : List Int} {size m : Int} {before behind : List Int} (h : PM w B n gc ga gs gf G gb gh bA oA cA bB oB cB pcs size m before behind) (hb : Below B w w') : PM w' B n gc ga gs gf G gb gh bA oA cA bB oB cB pcs size m before behind :=
  ⟨(hb.cell (p := ⟨gc, 0, none⟩) h.l1).trans h.c1, (hb.cell (p := ⟨ga, 0, none⟩) h.l2).trans h.c2, (hb.cell (p := ⟨gs, 0, none⟩) h.l3).trans h.c3, (hb.cell (p := ⟨gs, 2, none⟩) h.l3).trans h.c4, (hb.cell (p := ⟨gf, 0, none⟩) h.l4).trans h.c5,
    fun i hi => have hlt : G + i < B := Nat.lt_of_lt_of_le (Nat.add_lt_add_left hi G) h.l5
      ⟨(hb.cell (p := ⟨G + i, 0, none⟩) hlt).trans (h.pr i hi).1, (hb.cell (p := ⟨G + i, 1, none⟩) hlt).trans (h.pr i hi).2.1, (hb.cell (p := ⟨G + i, 2, none⟩) hlt).trans (h.pr i hi).2.2⟩,
    (hb.cell (p := ⟨gb, 0, none⟩) h.l6).trans h.va, fun i hi => (hb.cell (p := ⟨bA, oA + i, none⟩) h.l8).trans (h.vac i hi), (hb.cell (p := ⟨gh, 0, none⟩) h.l7).trans h.vb, fun i hi => (hb.cell (p := ⟨bB, oB + i, none⟩) h.l9).trans (h.vbc i hi),
    h.l1, h.l2, h.l3, h.l4, h.l5, h.l6, h.l7, h.l8, h.l9⟩

/-- What the writer keeps: the bytes so far, its buffer, the symbol. -/
structure FtI (w0 : World) (gbuf gsym : Nat) (v : Value) (dst : List UInt8) (W : World) : Prop where
  below : Below w0.heap.size w0 W
  own : Own8 W w0.heap.size v dst
  buf : Buf W gbuf
  sym : SymB W gsym
  n1 : v.ownBlock ≠ some gbuf
  n2 : v.ownBlock ≠ some gsym
  b1 : w0.heap.size ≤ gbuf
  b2 : w0.heap.size ≤ gsym
  b3 : gbuf ≠ gsym
section
variable {w0 W : World} {gbuf gsym : Nat} {v : Value} {dst : List UInt8}
theorem FtI.drewN (h : FtI w0 gbuf gsym v dst W) (k : Nat) : FtI w0 gbuf gsym v dst (W.drewN k) := ⟨below_drewN h.below k, h.own, h.buf, h.sym, h.n1, h.n2, h.b1, h.b2, h.b3⟩
theorem FtI.put (h : FtI w0 gbuf gsym v dst W) (vs : List Value) : FtI w0 gbuf gsym v dst (W.setCells gbuf 0 vs) := by
  have hk := kept_setCells gbuf vs 0 W
  exact ⟨h.below.trans (hk.below h.b1), h.own.kept hk.grown (.inr h.n1), h.buf.put vs, (hk.block _ h.b3.symm).trans h.sym, h.n1, h.n2, h.b1, h.b2, h.b3⟩
theorem FtI.app (h : FtI w0 gbuf gsym v dst W) {W' : World} {v' : Value} {dst' : List UInt8} (hown : Own8 W' w0.heap.size v' dst') (hg : W.grownBy W' v.ownBlock) (hat : v'.ownBlock = v.ownBlock ∨ v'.ownBlock = some W.heap.size) : FtI w0 gbuf gsym v' dst' W' := by
  obtain ⟨cs, hs, hb⟩ := h.buf
  have hl1 := h.buf.lt
  have hl2 : gsym < W.heap.size := (Array.getElem?_eq_some_iff.1 h.sym).1
  exact ⟨h.below.grown hg h.below.size (fun k hk => (h.own.lt k hk).1), hown, ⟨cs, hs, (hg.block gbuf hl1 (fun e => h.n1 e.symm)).trans hb⟩, (hg.block gsym hl2 (fun e => h.n2 e.symm)).trans h.sym, own_ne hat h.n1 (by omega), own_ne hat h.n2 (by omega), h.b1, h.b2, h.b3⟩
theorem FtI.alloc (h : FtI w0 gbuf gsym v dst W) (o : Obj) : FtI w0 gbuf gsym v dst (W.alloc o) := by
  obtain ⟨cs, hs, hb⟩ := h.buf
  have hl2 : gsym < W.heap.size := (Array.getElem?_eq_some_iff.1 h.sym).1
  exact ⟨h.below.alloc h.below.size o, h.own.alloc o, ⟨cs, hs, (Below.heap_alloc W o gbuf h.buf.lt).trans hb⟩, (Below.heap_alloc W o gsym hl2).trans h.sym, h.n1, h.n2, h.b1, h.b2, h.b3⟩
end
end Go.Proofs.Ytmadidaiaggheaa
