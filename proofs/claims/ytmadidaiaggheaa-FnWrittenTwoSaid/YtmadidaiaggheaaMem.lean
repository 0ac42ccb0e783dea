/- Memory in plain words: slices of bytes that read as lists, rows of bytes that the call owns, and append on them. -/
import Derived.Test.YtmadidaiaggheaaProg
import Derived.WalkKit
import Derived.WalkLawsBesides
import Derived.WalkSpells
import Derived.Outline
import Derived.OpenShut
import Derived.OwnWalk
import Derived.Laws.OwnMore
import Derived.Laws.BitsAllLaws
import Derived.Laws.AppendOwnNone
import Derived.Maps.AppendAt
import Derived.Deep.AppendLies
import Derived.Deep.Onto
import Derived.Deep.Draws
import Derived.Deep.QuietTactic
import Derived.BigQuiet
import Derived.Lib.Hide
import Derived.Lib.UnsafeStr
import Derived.Lib.Varint
namespace Go.Proofs.Ytmadidaiaggheaa
open Go.RowKit

theorem ret_bool {a b : Bool} (h : a = b) : Ending.returned (.bool a) = .returned (.bool b) := by rw [h]
theorem ret_int {k : IntKind} {a b : Int} (h : a = b) : Ending.returned (.int k a) = .returned (.int k b) := by rw [h]

/-- A slice at A reads as the cells xs, which lie below block B. -/
def Rd (w : World) (B : Nat) (A : Option Addr) (xs : List Value) : Prop :=
  xs = [] ∨ ∃ b o, A = some ⟨b, o, none⟩ ∧ b < B ∧ ∀ j u, xs[j]? = some u → w.cell? ⟨b, o + j, none⟩ = some u

theorem Rd.keep {w w' : World} {B B' : Nat} {A : Option Addr} {xs : List Value} (h : Rd w B A xs) (hB : B ≤ B') (hk : ∀ b o, b < B → w'.cell? ⟨b, o, none⟩ = w.cell? ⟨b, o, none⟩) : Rd w' B' A xs := by
  rcases h with h | ⟨b, o, e, hb, hc⟩
  · exact .inl h
  · exact .inr ⟨b, o, e, by omega, fun j u hu => (hk _ _ hb).trans (hc j u hu)⟩
theorem Rd.drop {w : World} {B : Nat} {A : Option Addr} {xs : List Value} (h : Rd w B A xs) (k c : Nat) (hc : xs.length ≤ c) :
    Rd w B (if c = k then A else A.map (·.add k)) (xs.drop k) := by
  rcases h with h | ⟨b, o, rfl, hb, hcell⟩
  · subst h; exact .inl (by simp)
  · by_cases hk : k < xs.length
    · refine .inr ⟨b, o + k, ?_, hb, fun j u hu => ?_⟩
      · rw [if_neg (by omega)]; simp [Addr.add_lit]
      · rw [List.getElem?_drop] at hu
        rw [Nat.add_assoc]; exact hcell _ u hu
    · exact .inl (List.drop_eq_nil_of_le (by omega))

/-- A slice of bytes that reads as l. -/
structure Sl (w : World) (B : Nat) (A : Option Addr) (n c : Nat) (l : List UInt8) : Prop where
  len : l.length = n
  cap : n ≤ c
  mx : c ≤ 9223372036854775807
  nil : A = none → c = 0
  rd : Rd w B A (Lib.byteCells l)

theorem byteCells_at (l : List UInt8) (j : Nat) : (Lib.byteCells l)[j]? = (l[j]?).map fun b => Value.int .u8 b.toNat := by simp [Lib.byteCells]
theorem byteCells_append (a b : List UInt8) : Lib.byteCells (a ++ b) = Lib.byteCells a ++ Lib.byteCells b := by simp [Lib.byteCells]
theorem byteCells_drop (l : List UInt8) (k : Nat) : Lib.byteCells (l.drop k) = (Lib.byteCells l).drop k := by simp [Lib.byteCells]
theorem byteCells_one (l : List UInt8) : ∀ u ∈ Lib.byteCells l, u.oneCell' = true := by
  intro u hu
  simp only [Lib.byteCells, List.mem_map] at hu
  obtain ⟨b, _, rfl⟩ := hu
  rfl

section
variable {w w' : World} {B B' n c : Nat} {A : Option Addr} {l : List UInt8}
theorem Sl.keep (h : Sl w B A n c l) (hB : B ≤ B') (hk : ∀ b o, b < B → w'.cell? ⟨b, o, none⟩ = w.cell? ⟨b, o, none⟩) : Sl w' B' A n c l := ⟨h.len, h.cap, h.mx, h.nil, h.rd.keep hB hk⟩
theorem Sl.more (h : Sl w B A n c l) (hB : B ≤ B') : Sl w B' A n c l := h.keep hB fun _ _ _ => rfl
theorem Sl.below (h : Sl w B A n c l) (hb : Below B w w') : Sl w' B A n c l := h.keep (Nat.le_refl _) fun b o hlt => hb.cell (p := ⟨b, o, none⟩) hlt
theorem Sl.alloc (h : Sl w B A n c l) (hB : B ≤ w.heap.size) (o : Obj) : Sl (w.alloc o) B A n c l := h.below ((Below.refl _ _).alloc hB o)
theorem Sl.grown {row : Option Nat} (h : Sl w B A n c l) (hg : w.grownBy w' row) (hB : B ≤ w.heap.size) (hr : ∀ k, row = some k → B ≤ k) : Sl w' B A n c l := h.below ((Below.refl _ _).grown hg hB hr)
theorem Sl.set (h : Sl w B A n c l) {p : Addr} (hp : B ≤ p.block) (u : Value) : Sl (w.setCell p u) B A n c l := h.below ((Below.refl _ _).setCell hp u)
theorem Sl.unalloc {o : Obj} (h : Sl (w.alloc o) B A n c l) (hB : B ≤ w.heap.size) : Sl w B A n c l := h.keep (Nat.le_refl _) fun b o' hb => (World.cell?_alloc_lt w o ⟨b, o', none⟩ (by show b < _; omega)).symm
theorem Sl.drew (h : Sl w B A n c l) : Sl w.drew B A n c l := h.keep (Nat.le_refl _) fun _ _ _ => rfl
theorem Sl.drewN (h : Sl w B A n c l) (k : Nat) : Sl (w.drewN k) B A n c l := h.keep (Nat.le_refl _) fun _ _ _ => rfl
theorem Sl.drop (h : Sl w B A n c l) (k : Nat) (hk : k ≤ n) : Sl w B (if c = k then A else A.map (·.add k)) (n - k) (c - k) (l.drop k) := by
  refine ⟨by rw [List.length_drop, h.len], by have := h.cap; omega, by have := h.mx; omega, fun e => ?_, ?_⟩
  · split at e
    · omega
    · have := h.nil (by simpa using e); omega
  · rw [byteCells_drop]; exact h.rd.drop k c (by rw [Lib.byteCells_length, h.len]; exact h.cap)
theorem Sl.cutL {b o k : Nat} {l1 l2 : List UInt8} (h : Sl w B (some ⟨b, o, none⟩) n c (l1 ++ l2)) (hk : l1.length = k) (hc : ¬ c = k) : Sl w B (some ⟨b, o + k, none⟩) (n - k) (c - k) l2 := by
  have h1 := h.drop k (by have := h.len; rw [List.length_append] at this; omega)
  rw [if_neg hc, List.drop_left' hk] at h1
  simpa [Addr.add_lit] using h1
theorem Sl.set_ne {b o : Nat} (h : Sl w B (some ⟨b, o, none⟩) n c l) {p : Addr} (hp : b ≠ p.block) (u : Value) : Sl (w.setCell p u) B (some ⟨b, o, none⟩) n c l := by
  refine ⟨h.len, h.cap, h.mx, h.nil, ?_⟩
  rcases h.rd with e | ⟨b', o', e, hb, hc⟩
  · exact .inl e
  · cases e
    exact .inr ⟨b, o, rfl, hb, fun j v hv => (World.cell?_setCell_other w p ⟨b, o + j, none⟩ u (fun e => by subst e; exact hp rfl)).trans (hc j v hv)⟩
/-- The byte at k. -/
theorem Sl.at_ (h : Sl w B A n c l) {k : Nat} (hk : k < n) : ∃ b o, A = some ⟨b, o, none⟩ ∧ b < B ∧ ∀ j (hj : j < l.length), w.cell? ⟨b, o + j, none⟩ = some (.int .u8 (l[j]).toNat) := by
  rcases h.rd with e | ⟨b, o, e, hb, hc⟩
  · have h1 := Lib.byteCells_length l
    rw [e] at h1
    have := h.len
    simp at h1
    omega
  · exact ⟨b, o, e, hb, fun j hj => hc j _ (by rw [byteCells_at, List.getElem?_eq_getElem hj]; rfl)⟩
end

theorem below_drewN {B : Nat} {a w : World} (h : Below B a w) (n : Nat) : Below B a (w.drewN n) := ⟨h.os, h.tape, h.output, h.size, h.block⟩
/-- A row of bytes of the call's own, from block 'base' on. -/
def Own8 (w : World) (base : Nat) (v : Value) (l : List UInt8) : Prop := w.ownsRow base 5 1 v l.length (Lib.byteCells l)

section
variable {w w' : World} {base base' : Nat} {v : Value} {l : List UInt8}
theorem Own8.nil (w : World) (base : Nat) : Own8 w base (.slice none 0 0) [] := World.ownsRow_nil w base _ 1
theorem Own8.mono (h : Own8 w base v l) (hb : base' ≤ base) : Own8 w base' v l := World.ownsRow.mono h hb
theorem Own8.kept {row : Option Nat} (h : Own8 w base v l) (hg : w.grownBy w' row) (hne : v.ownBlock = none ∨ v.ownBlock ≠ row) : Own8 w' base v l := World.ownsRow.kept h hg hne
theorem Own8.below (h : Own8 w base v l) (hb : Below w.heap.size w w') : Own8 w' base v l :=
  h.kept (row := none) ⟨hb.os, hb.tape, hb.output, hb.size, fun i hi _ => hb.block i hi⟩ (by cases v.ownBlock <;> simp)
theorem Own8.alloc (h : Own8 w base v l) (o : Obj) : Own8 (w.alloc o) base v l := World.ownsRow.alloc h o
theorem Own8.lt (h : Own8 w base v l) : ∀ k, v.ownBlock = some k → base ≤ k ∧ k < w.heap.size := World.ownsRow.lt h
theorem Own8.far (h : Own8 w base v l) {a : Addr} (ha : v.ownBlock ≠ some a.block) (u : Value) : Own8 (w.setCell a u) base v l :=
  h.kept (row := some a.block) ⟨rfl, rfl, rfl, by simp [World.setCell], fun i _ hne => Below.heap_setCell _ _ _ _ (fun e => hne (by rw [e]))⟩ (.inr ha)
theorem Own8.sl (h : Own8 w base v l) : ∃ A n c, v = .slice A n c ∧ Sl w w.heap.size A n c l := by
  rcases h.2 with ⟨rfl, hn⟩ | ⟨g, cap, cur, rfl, hb, hh, hnc, hcm, hs, hx⟩
  · have hl : l = [] := List.eq_nil_of_length_eq_zero hn
    subst hl
    exact ⟨none, 0, 0, rfl, rfl, Nat.le_refl _, by omega, fun _ => rfl, .inl rfl⟩
  · refine ⟨_, _, _, rfl, rfl, hnc, by simpa [maxLen] using hcm, fun e => (by cases e), .inr ⟨g, 0, rfl, (h.lt g rfl).2, fun j u hu => ?_⟩⟩
    have := World.ownsRow.cells h (g := g) rfl j u hu
    rwa [Addr.add_lit] at this
end

/-- What a slice reads lies from block k on. -/
def Fresh (k : Nat) (A : Option Addr) (l : List UInt8) : Prop := l = [] ∨ ∃ a, A = some a ∧ k ≤ a.block
theorem Own8.fresh {w : World} {base n c : Nat} {A : Option Addr} {l : List UInt8} (h : Own8 w base (.slice A n c) l) : Fresh base A l := by
  rcases h.2 with ⟨_, hn⟩ | ⟨g, cap, cur, e, hb, _⟩
  · exact .inl (List.eq_nil_of_length_eq_zero hn)
  · cases e; exact .inr ⟨_, rfl, hb⟩
theorem Sl.set_fresh {w : World} {B k n c : Nat} {A : Option Addr} {l : List UInt8} (h : Sl w B A n c l) (hf : Fresh k A l) {p : Addr} (hp : p.block < k) (u : Value) : Sl (w.setCell p u) B A n c l := by
  refine ⟨h.len, h.cap, h.mx, h.nil, ?_⟩
  rcases h.rd with e | ⟨b, o, rfl, hb, hc⟩
  · exact .inl e
  · rcases hf with rfl | ⟨a, e, ha⟩
    · exact .inl rfl
    · cases e
      exact .inr ⟨b, o, rfl, hb, fun j v hv => (World.cell?_setCell_other w p ⟨b, o + j, none⟩ u (fun e => by subst e; simp at hp ha; omega)).trans (hc j v hv)⟩
theorem info8 : (Try.prog.info? 5).map (fun i => (i.zero, i.size, i.bytes)) = some (some (.int .u8 0), 1, 1) := by kernel_rfl

/-- append onto a row of bytes of the call's own, whatever the source is. -/
theorem wpList_ap8 {w : World} {ops : Array Oper} {rest : List Oper} {o : Oper} {a : Act} {Q : Exit → Act → World → Prop} (hgd : o.guard = none) (s x : Operand)
    (ho : o.op = .call { callee := .builtin .append, args := #[s, x], argTypes := #[24, 24] })
    (base : Nat) (v : Value) (l : List UInt8) (hs : a.eval s = v) (hown : Own8 w base v l) (B : Nat) (A : Option Addr) (m c : Nat) (l2 : List UInt8) (hx : a.eval x = .slice A m c) (hr : Sl w B A m c l2)
    (hlen : l.length + l2.length ≤ 140737488355328) (hbase : base ≤ w.heap.size)
    (h : ∀ v' w', Own8 w' base v' (l ++ l2) → w.grownBy w' v.ownBlock → (v'.ownBlock = v.ownBlock ∨ v'.ownBlock = some w.heap.size) → wpList Try.prog ops Q rest (a.put o.dst v') w') :
    wpList Try.prog ops Q (o :: rest) a w := by
  obtain ⟨i0, hi0, hz0, hz1, hz2⟩ := info_parts info8
  have hm := hr.len
  subst hm
  rcases A with _ | ad
  · have hc := hr.nil rfl
    subst hc
    have h0 : l2 = [] := List.eq_nil_of_length_eq_zero (by have := hr.cap; omega)
    subst h0
    refine wpList_append_own_none hgd s x 24 ho base 5 i0 1 Try.underlying24 hi0 v l.length _ hs hown hx ?_
    exact h v w (by rw [List.append_nil]; exact hown) (World.grownBy.refl w _) (.inl rfl)
  · refine wpList_append_own_at w hgd s x 24 ho base 5 i0 (.int .u8 0) 1 1 Try.underlying24 hi0 hz0 hz1 hz2 rfl (by omega) v l.length _ hs hown ad l2.length c (Lib.byteCells l2) hx (by rw [Lib.byteCells_length, Nat.mul_one]) ?_ (byteCells_one l2) (by unfold maxLen; omega) (by omega) hbase ?_
    · intro j u hu
      rcases hr.rd with e | ⟨b, o, e, hb, hc⟩
      · rw [e] at hu; simp at hu
      · cases e
        rw [Addr.add_lit]; exact hc j u hu
    · intro v' w' h1 h2 _ h3
      refine h v' w' ?_ h2 h3
      unfold Own8
      rw [List.length_append, byteCells_append]; exact h1

/-- The one byte that an append lays into a block of its own first. -/
theorem sl_new (w : World) (b : UInt8) (z : Int) (hz : z = b.toNat) : Sl (w.alloc (.cells #[.int .u8 z] 5)) (w.heap.size + 1) (some ⟨w.heap.size, 0, none⟩) 1 1 [b] := by
  refine ⟨rfl, Nat.le_refl _, by omega, fun e => (by cases e), .inr ⟨w.heap.size, 0, rfl, by omega, fun j u hu => ?_⟩⟩
  cases j with
  | zero =>
    simp [Lib.byteCells] at hu
    subst hu hz
    have := cell_one_new w (.int .u8 b.toNat) 5 0 _ rfl
    rwa [Addr.add_lit] at this
  | succ j => simp [Lib.byteCells] at hu
end Go.Proofs.Ytmadidaiaggheaa
