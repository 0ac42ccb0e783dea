/- Rows of numbers of the call's own, three of them side by side, and append of one number onto each. -/
import Derived.Test.YtmadidaiaggheaaIWalk
namespace Go.Proofs.Ytmadidaiaggheaa
open Go.RowKit
set_option linter.unusedVariables false

/-- A row of numbers of the call's own. -/
def OwnN (w : World) (base : Nat) (e : TypeId) (k : IntKind) (v : Value) (zs : List Int) : Prop := w.ownsRow base e 1 v zs.length (zs.map (Value.int k))
section
variable {w w' : World} {base : Nat} {e : TypeId} {k : IntKind} {v : Value} {zs : List Int}
theorem OwnN.nil (w : World) (base : Nat) (e : TypeId) (k : IntKind) : OwnN w base e k (.slice none 0 0) [] := World.ownsRow_nil w base _ 1
theorem OwnN.kept {row : Option Nat} (h : OwnN w base e k v zs) (hg : w.grownBy w' row) (hne : v.ownBlock = none ∨ v.ownBlock ≠ row) : OwnN w' base e k v zs := World.ownsRow.kept h hg hne
theorem OwnN.alloc (h : OwnN w base e k v zs) (o : Obj) : OwnN (w.alloc o) base e k v zs := World.ownsRow.alloc h o
theorem OwnN.lt (h : OwnN w base e k v zs) : ∀ g, v.ownBlock = some g → base ≤ g ∧ g < w.heap.size := World.ownsRow.lt h
end

/-- Two values that do not share a block. -/
def Apart (v u : Value) : Prop := ∀ g, v.ownBlock = some g → u.ownBlock ≠ some g
theorem Apart.symm {v u : Value} (h : Apart v u) : Apart u v := fun g h1 h2 => h g h2 h1

/-- Three rows that do not share blocks: of int32, of uint32, of uint32; block g and the blocks below 'base' are none of theirs. -/
structure Rows3 (w : World) (base : Nat) (a b c : Value) (xs ys zs : List Int) : Prop where
  ra : OwnN w base 21 .i32 a xs
  rb : OwnN w base 28 .u32 b ys
  rc : OwnN w base 28 .u32 c zs
  ab : Apart a b
  ac : Apart a c
  bc : Apart b c
/-- A block of one number that belongs to none of the rows. -/
structure Lone3 (w : World) (a b c : Value) (g : Nat) (v : Value) : Prop where
  cell : w.cell? ⟨g, 0, none⟩ = some v
  lt : g < w.heap.size
  na : a.ownBlock ≠ some g
  nb : b.ownBlock ≠ some g
  nc : c.ownBlock ≠ some g
section
variable {w w' : World} {base g : Nat} {a b c v : Value} {xs ys zs : List Int}
theorem Rows3.alloc (h : Rows3 w base a b c xs ys zs) (o : Obj) : Rows3 (w.alloc o) base a b c xs ys zs := ⟨h.ra.alloc o, h.rb.alloc o, h.rc.alloc o, h.ab, h.ac, h.bc⟩
theorem Rows3.drew (h : Rows3 w base a b c xs ys zs) : Rows3 w.drew base a b c xs ys zs := ⟨h.ra, h.rb, h.rc, h.ab, h.ac, h.bc⟩
theorem Lone3.alloc (h : Lone3 w a b c g v) (o : Obj) : Lone3 (w.alloc o) a b c g v := ⟨(World.cell?_alloc_lt w o ⟨g, 0, none⟩ h.lt).trans h.cell, by simp; have := h.lt; omega, h.na, h.nb, h.nc⟩
theorem Lone3.drew (h : Lone3 w a b c g v) : Lone3 w.drew a b c g v := ⟨h.cell, h.lt, h.na, h.nb, h.nc⟩
theorem Lone3.new (h : Rows3 w base a b c xs ys zs) (v : Value) (t : TypeId) : Lone3 (w.alloc (.cells #[v] t)) a b c w.heap.size v :=
  ⟨cell_of_row _ _ 0 _ _ (0, 0) (heap_alloc_new w _), by simp, fun e => by have := (h.ra.lt _ e).2; omega, fun e => by have := (h.rb.lt _ e).2; omega, fun e => by have := (h.rc.lt _ e).2; omega⟩
end
theorem infoI : (Try.prog.info? 21).map (fun i => (i.zero, i.size, i.bytes)) = some (some (.int .i32 0), 1, 4) := by kernel_rfl
theorem infoU : (Try.prog.info? 28).map (fun i => (i.zero, i.size, i.bytes)) = some (some (.int .u32 0), 1, 4) := by kernel_rfl

section
variable {w : World} {ops : Array Oper} {o : Oper} {ac : Act} {K : Act → World → Prop} {Q : Exit → Act → World → Prop} {E : Prop}

theorem step_apN (T e : TypeId) (kd : IntKind) (hT : Try.prog.underlying T = some (.slice e)) (hinfo : (Try.prog.info? e).map (fun i => (i.zero, i.size, i.bytes)) = some (some (.int kd 0), 1, 4)) (hgd : o.guard = none) (s x : Operand)
    (ho : o.op = .call { callee := .builtin .append, args := #[s, x], argTypes := #[T, T] })
    (base : Nat) (v : Value) (l : List Int) (hs : ac.eval s = v) (hown : OwnN w base e kd v l) (g : Nat) (r : Int) (hx : ac.eval x = .slice (some ⟨g, 0, none⟩) 1 1)
    (h1 : w.cell? ⟨g, 0, none⟩ = some (.int kd r)) (hlen : l.length + 1 ≤ 4294967296) (hbase : base ≤ w.heap.size)
    (h : ∀ v' w', OwnN w' base e kd v' (l ++ [r]) → w.grownBy w' v.ownBlock → (v'.ownBlock = v.ownBlock ∨ v'.ownBlock = some w.heap.size) → K (ac.put o.dst v') w') :
    if Region.wanted o (yielded ops ac.tmps) = true then Oper.wp Try.prog o ac w K Q else E := by
  obtain ⟨i0, hi0, hz0, hz1, hz2⟩ := info_parts hinfo
  refine step_append_lies w hgd s x T ho base e i0 _ 1 4 hT hi0 hz0 hz1 hz2 rfl (by omega) v l.length _ hs hown ⟨g, 0, none⟩ 1 1 [.int kd r] hx rfl ?_ (by simp; rfl) (by omega) (by unfold maxLen; omega) (by omega) hbase _ rfl ?_
  · intro j u hu
    rw [Addr.add_lit, Nat.zero_add]
    match j, hu with
    | 0, hu => simp at hu; rw [h1, ← hu]
    | j + 1, hu => simp at hu
  · intro g' cap w' k1 k2 k3 _
    refine h _ w' ?_ k2 ?_
    · unfold OwnN
      rw [List.length_append, List.map_append]; exact k1
    · rcases k3 with e | e
      · exact .inl (by rw [e]; rfl)
      · exact .inr (by rw [e]; rfl)

theorem step_a (hgd : o.guard = none) (s x : Operand) (ho : o.op = .call { callee := .builtin .append, args := #[s, x], argTypes := #[27, 27] })
    (base : Nat) (a b c : Value) (xs ys zs : List Int) (hs : ac.eval s = a) (hR : Rows3 w base a b c xs ys zs) (g : Nat) (r : Int) (hx : ac.eval x = .slice (some ⟨g, 0, none⟩) 1 1) (hL : Lone3 w a b c g (.int .i32 r)) (hlen : xs.length + 1 ≤ 4294967296) (hbase : base ≤ w.heap.size)
    (h : ∀ v' w', Rows3 w' base v' b c (xs ++ [r]) ys zs → (∀ g v, Lone3 w a b c g v → Lone3 w' v' b c g v) → Below base w w' → K (ac.put o.dst v') w') :
    if Region.wanted o (yielded ops ac.tmps) = true then Oper.wp Try.prog o ac w K Q else E := by
  refine step_apN 27 21 .i32 Try.underlying27 infoI hgd s x ho base a xs hs hR.ra g r hx hL.cell hlen hbase ?_
  intro v' w' h1 h2 h3
  have hnew : ∀ g, v'.ownBlock = some g → a.ownBlock = some g ∨ g = w.heap.size := fun g e => by
    rcases h3 with h | h
    · exact .inl (h ▸ e)
    · rw [h] at e; injection e with e; exact .inr e.symm
  have hkeep : ∀ u : Value, Apart a u → u.ownBlock = none ∨ u.ownBlock ≠ a.ownBlock := fun u hu => by
    cases hb : u.ownBlock with
    | none => exact .inl rfl
    | some q => exact .inr (fun e => hu q e.symm hb)
  have hap : ∀ u : Value, Apart a u → (∀ q, u.ownBlock = some q → q < w.heap.size) → Apart v' u := fun u hu hq g e1 e2 => by
    rcases hnew g e1 with h | h
    · exact hu g h e2
    · have := hq g e2; omega
  refine h v' w' ?_ ?_ ((Below.refl _ _).grown h2 hbase (fun k hk => (hR.ra.lt k hk).1))
  · exact ⟨h1, hR.rb.kept h2 (hkeep b hR.ab), hR.rc.kept h2 (hkeep c hR.ac), hap b hR.ab (fun q e => (hR.rb.lt q e).2), hap c hR.ac (fun q e => (hR.rc.lt q e).2), hR.bc⟩
  · intro q u hu
    refine ⟨h2.cell hu.cell (fun e => hu.na e.symm), Nat.lt_of_lt_of_le hu.lt h2.size, ?_, ?_, ?_⟩
    · intro e; rcases hnew q e with h | h
      · exact hu.na h
      · have := hu.lt; omega
    · exact hu.nb
    · exact hu.nc

theorem step_b (hgd : o.guard = none) (s x : Operand) (ho : o.op = .call { callee := .builtin .append, args := #[s, x], argTypes := #[46, 46] })
    (base : Nat) (a b c : Value) (xs ys zs : List Int) (hs : ac.eval s = b) (hR : Rows3 w base a b c xs ys zs) (g : Nat) (r : Int) (hx : ac.eval x = .slice (some ⟨g, 0, none⟩) 1 1) (hL : Lone3 w a b c g (.int .u32 r)) (hlen : ys.length + 1 ≤ 4294967296) (hbase : base ≤ w.heap.size)
    (h : ∀ v' w', Rows3 w' base a v' c xs (ys ++ [r]) zs → (∀ g v, Lone3 w a b c g v → Lone3 w' a v' c g v) → Below base w w' → K (ac.put o.dst v') w') :
    if Region.wanted o (yielded ops ac.tmps) = true then Oper.wp Try.prog o ac w K Q else E := by
  refine step_apN 46 28 .u32 Try.underlying46 infoU hgd s x ho base b ys hs hR.rb g r hx hL.cell hlen hbase ?_
  intro v' w' h1 h2 h3
  have hnew : ∀ g, v'.ownBlock = some g → b.ownBlock = some g ∨ g = w.heap.size := fun g e => by
    rcases h3 with h | h
    · exact .inl (h ▸ e)
    · rw [h] at e; injection e with e; exact .inr e.symm
  have hkeep : ∀ u : Value, Apart b u → u.ownBlock = none ∨ u.ownBlock ≠ b.ownBlock := fun u hu => by
    cases hb : u.ownBlock with
    | none => exact .inl rfl
    | some q => exact .inr (fun e => hu q e.symm hb)
  have hap : ∀ u : Value, Apart b u → (∀ q, u.ownBlock = some q → q < w.heap.size) → Apart v' u := fun u hu hq g e1 e2 => by
    rcases hnew g e1 with h | h
    · exact hu g h e2
    · have := hq g e2; omega
  refine h v' w' ?_ ?_ ((Below.refl _ _).grown h2 hbase (fun k hk => (hR.rb.lt k hk).1))
  · exact ⟨hR.ra.kept h2 (hkeep a hR.ab.symm), h1, hR.rc.kept h2 (hkeep c hR.bc), (hap a hR.ab.symm (fun q e => (hR.ra.lt q e).2)).symm, hR.ac, hap c hR.bc (fun q e => (hR.rc.lt q e).2)⟩
  · intro q u hu
    refine ⟨h2.cell hu.cell (fun e => hu.nb e.symm), Nat.lt_of_lt_of_le hu.lt h2.size, ?_, ?_, ?_⟩
    · exact hu.na
    · intro e; rcases hnew q e with h | h
      · exact hu.nb h
      · have := hu.lt; omega
    · exact hu.nc

theorem step_c (hgd : o.guard = none) (s x : Operand) (ho : o.op = .call { callee := .builtin .append, args := #[s, x], argTypes := #[46, 46] })
    (base : Nat) (a b c : Value) (xs ys zs : List Int) (hs : ac.eval s = c) (hR : Rows3 w base a b c xs ys zs) (g : Nat) (r : Int) (hx : ac.eval x = .slice (some ⟨g, 0, none⟩) 1 1) (hL : Lone3 w a b c g (.int .u32 r)) (hlen : zs.length + 1 ≤ 4294967296) (hbase : base ≤ w.heap.size)
    (h : ∀ v' w', Rows3 w' base a b v' xs ys (zs ++ [r]) → (∀ g v, Lone3 w a b c g v → Lone3 w' a b v' g v) → Below base w w' → K (ac.put o.dst v') w') :
    if Region.wanted o (yielded ops ac.tmps) = true then Oper.wp Try.prog o ac w K Q else E := by
  refine step_apN 46 28 .u32 Try.underlying46 infoU hgd s x ho base c zs hs hR.rc g r hx hL.cell hlen hbase ?_
  intro v' w' h1 h2 h3
  have hnew : ∀ g, v'.ownBlock = some g → c.ownBlock = some g ∨ g = w.heap.size := fun g e => by
    rcases h3 with h | h
    · exact .inl (h ▸ e)
    · rw [h] at e; injection e with e; exact .inr e.symm
  have hkeep : ∀ u : Value, Apart c u → u.ownBlock = none ∨ u.ownBlock ≠ c.ownBlock := fun u hu => by
    cases hb : u.ownBlock with
    | none => exact .inl rfl
    | some q => exact .inr (fun e => hu q e.symm hb)
  have hap : ∀ u : Value, Apart c u → (∀ q, u.ownBlock = some q → q < w.heap.size) → Apart v' u := fun u hu hq g e1 e2 => by
    rcases hnew g e1 with h | h
    · exact hu g h e2
    · have := hq g e2; omega
  refine h v' w' ?_ ?_ ((Below.refl _ _).grown h2 hbase (fun k hk => (hR.rc.lt k hk).1))
  · exact ⟨hR.ra.kept h2 (hkeep a hR.ac.symm), hR.rb.kept h2 (hkeep b hR.bc.symm), h1, hR.ab, (hap a hR.ac.symm (fun q e => (hR.ra.lt q e).2)).symm, (hap b hR.bc.symm (fun q e => (hR.rb.lt q e).2)).symm⟩
  · intro q u hu
    refine ⟨h2.cell hu.cell (fun e => hu.nc e.symm), Nat.lt_of_lt_of_le hu.lt h2.size, ?_, ?_, ?_⟩
    · exact hu.na
    · exact hu.nb
    · intro e; rcases hnew q e with h | h
      · exact hu.nc h
      · have := hu.lt; omega
end
end Go.Proofs.Ytmadidaiaggheaa
