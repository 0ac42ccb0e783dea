/- Rows of pieces of the call's own, and the contract of the reference's PiecesOf. -/
import Derived.Test.YtmadidaiaggheaaNumsR
import Derived.Test.YtmadidaiaggheaaPlW
import Derived.Test.YtmadidaiaggheaaRng
import Derived.Test.YtmadidaiaggheaaIter
namespace Go.Proofs.Ytmadidaiaggheaa
open Go.RowKit
set_option linter.unusedVariables false

theorem pcells_append (a b : List (Int × Int)) : pcells (a ++ b) = pcells a ++ pcells b := by simp [pcells]
theorem pcells_one (ps : List (Int × Int)) : ∀ u ∈ pcells ps, u.oneCell' = true := by
  intro u hu
  simp only [pcells, List.mem_flatMap] at hu
  obtain ⟨p, _, h⟩ := hu
  simp at h
  rcases h with rfl | rfl <;> rfl
def OwnP (w : World) (base : Nat) (v : Value) (ps : List (Int × Int)) : Prop := w.ownsRow base 53 2 v ps.length (pcells ps)
section
variable {w w' : World} {base B n c : Nat} {A : Option Addr} {v : Value} {ps : List (Int × Int)}
theorem OwnP.nil (w : World) (base : Nat) : OwnP w base (.slice none 0 0) [] := World.ownsRow_nil w base _ 2
theorem OwnP.kept {row : Option Nat} (h : OwnP w base v ps) (hg : w.grownBy w' row) (hne : v.ownBlock = none ∨ v.ownBlock ≠ row) : OwnP w' base v ps := World.ownsRow.kept h hg hne
theorem OwnP.below (h : OwnP w base v ps) (hb : Below w.heap.size w w') : OwnP w' base v ps :=
  h.kept (row := none) ⟨hb.os, hb.tape, hb.output, hb.size, fun i hi _ => hb.block i hi⟩ (by cases v.ownBlock <;> simp)
theorem OwnP.alloc (h : OwnP w base v ps) (o : Obj) : OwnP (w.alloc o) base v ps := World.ownsRow.alloc h o
theorem OwnP.drewN (h : OwnP w base v ps) (k : Nat) : OwnP (w.drewN k) base v ps := h
theorem OwnP.lt (h : OwnP w base v ps) : ∀ k, v.ownBlock = some k → base ≤ k ∧ k < w.heap.size := World.ownsRow.lt h
theorem OwnP.slp (h : OwnP w base v ps) (hok : ∀ p ∈ ps, PieceOk p) : ∃ A n c, v = .slice A n c ∧ SlP w w.heap.size A n c ps := by
  rcases h.2 with ⟨rfl, hn⟩ | ⟨g, cap, cur, rfl, hb, hh, hnc, hcm, hs, hx⟩
  · have hl : ps = [] := List.eq_nil_of_length_eq_zero hn
    subst hl
    exact ⟨none, 0, 0, rfl, rfl, Nat.le_refl _, by omega, fun _ => rfl, .inl rfl, by simp⟩
  · refine ⟨_, _, _, rfl, rfl, hnc, by simpa [maxLen] using hcm, fun e => (by cases e), .inr ⟨g, 0, rfl, (h.lt g rfl).2, fun j u hu => ?_⟩, hok⟩
    have := World.ownsRow.cells h (g := g) rfl j u hu
    rwa [Addr.add_lit] at this
/-- A row that is not empty: where its last piece lies, and what a store into its length leaves. -/
theorem OwnP.last {x l : Int} (h : OwnP w base v (ps ++ [(x, l)])) : ∃ g cap, v = .slice (some ⟨g, 0, none⟩) (ps.length + 1) cap ∧ ps.length + 1 ≤ cap ∧ cap ≤ 9223372036854775807 ∧ base ≤ g ∧ g < w.heap.size ∧ w.cell? ⟨g, ps.length * 2, none⟩ = some (.int .i32 x) ∧ w.cell? ⟨g, ps.length * 2 + 1, none⟩ = some (.int .u32 l) ∧
    w.frozen? ⟨g, ps.length * 2 + 1, none⟩ = false ∧ ∀ l', OwnP (w.setCell ⟨g, ps.length * 2 + 1, none⟩ (.int .u32 l')) base v (ps ++ [(x, l')]) := by
  have hlt := h.lt
  have hlen : (ps ++ [(x, l)]).length = ps.length + 1 := by simp
  rcases h.2 with ⟨_, hn⟩ | ⟨g, cap, cur, rfl, hb, hh, hnc, hcm, hs, hx⟩
  · simp at hn
  · have hcell : ∀ j u, (pcells (ps ++ [(x, l)]))[j]? = some u → w.cell? ⟨g, j, none⟩ = some u := fun j u hu => by
      have := World.ownsRow.cells h (g := g) rfl j u hu
      rwa [Addr.add_lit, Nat.zero_add] at this
    have hp := pcells_put (ps := ps ++ [(x, l)]) (k := ps.length) (by simp)
    simp only [List.getElem_concat_length] at hp
    rw [hlen] at hnc hx ⊢
    refine ⟨g, cap, rfl, hnc, by simpa [maxLen] using hcm, hb, (hlt g rfl).2, hcell _ _ hp.1, hcell _ _ hp.2, by simp [World.frozen?, hh], fun l' => ?_⟩
    refine ⟨by rw [pcells_len]; omega, .inr ⟨g, cap, cur.setIfInBounds (ps.length * 2 + 1) (.int .u32 l'), by simp, hb, heap_set hh _ _, by simpa using hnc, hcm, by simpa using hs, ?_⟩⟩
    have hl2 : (ps ++ [(x, l')]).length = ps.length + 1 := by simp
    rw [hl2, Array.toList_setIfInBounds, List.take_set, hx, pcells_append, pcells_append]
    have e : (pcells ps).length = ps.length * 2 := by rw [pcells_len]; omega
    rw [List.set_append_right _ _ (by rw [e]; omega), e, show ps.length * 2 + 1 - ps.length * 2 = 1 by omega]
    rfl
end
theorem infoP : (Try.prog.info? 53).map (fun i => (i.zero, i.size, i.bytes)) = some (some (.agg #[.int .i32 0, .int .u32 0]), 2, 8) := by kernel_rfl
/-- append of one piece, which was laid into a block of its own first. -/
theorem wpList_apP {w : World} {ops : Array Oper} {rest : List Oper} {o : Oper} {a : Act} {Q : Exit → Act → World → Prop} (hgd : o.guard = none) (s x : Operand)
    (ho : o.op = .call { callee := .builtin .append, args := #[s, x], argTypes := #[35, 35] })
    (base : Nat) (v : Value) (l : List (Int × Int)) (hs : a.eval s = v) (hown : OwnP w base v l) (g : Nat) (r : Int × Int) (hx : a.eval x = .slice (some ⟨g, 0, none⟩) 1 1)
    (h1 : w.cell? ⟨g, 0, none⟩ = some (.int .i32 r.1)) (h2 : w.cell? ⟨g, 1, none⟩ = some (.int .u32 r.2)) (hlen : l.length + 1 ≤ 4294967296) (hbase : base ≤ w.heap.size)
    (h : ∀ v' w', OwnP w' base v' (l ++ [r]) → w.grownBy w' v.ownBlock → (v'.ownBlock = v.ownBlock ∨ v'.ownBlock = some w.heap.size) → wpList Try.prog ops Q rest (a.put o.dst v') w') :
    wpList Try.prog ops Q (o :: rest) a w := by
  obtain ⟨i0, hi0, hz0, hz1, hz2⟩ := info_parts infoP
  refine wpList_append_own_at w hgd s x 35 ho base 53 i0 _ 2 8 Try.underlying35 hi0 hz0 hz1 hz2 rfl (by omega) v l.length _ hs hown ⟨g, 0, none⟩ 1 1 (pcells [r]) hx rfl ?_ (pcells_one [r]) (by unfold maxLen; omega) (by omega) hbase ?_
  · intro j u hu
    rw [Addr.add_lit, Nat.zero_add]
    match j, hu with
    | 0, hu => simp [pcells] at hu; rw [h1, ← hu]
    | 1, hu => simp [pcells] at hu; rw [h2, ← hu]
    | j + 2, hu => simp [pcells] at hu
  · intro v' w' h1 h2 _ h3
    refine h v' w' ?_ h2 h3
    unfold OwnP
    rw [List.length_append, pcells_append]; exact h1
end Go.Proofs.Ytmadidaiaggheaa
