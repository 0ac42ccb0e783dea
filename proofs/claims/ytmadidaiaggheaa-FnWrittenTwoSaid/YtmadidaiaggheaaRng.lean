/- Rows of ranges of the call's own, and the contract of the reference's Ranges. -/
import Derived.Test.YtmadidaiaggheaaTab
namespace Go.Proofs.Ytmadidaiaggheaa
open Go.RowKit
set_option linter.unusedVariables false

def rcells (rs : List (Int × Int × Int)) : List Value := rs.flatMap fun r => [.int .i32 r.1, .int .u32 r.2.1, .int .u32 r.2.2]
theorem rcells_cons (r : Int × Int × Int) (l : List (Int × Int × Int)) : rcells (r :: l) = .int .i32 r.1 :: .int .u32 r.2.1 :: .int .u32 r.2.2 :: rcells l := rfl
theorem rcells_append (a b : List (Int × Int × Int)) : rcells (a ++ b) = rcells a ++ rcells b := by simp [rcells]
theorem rcells_len (rs : List (Int × Int × Int)) : (rcells rs).length = rs.length * 3 := by
  induction rs with
  | nil => rfl
  | cons p r ih => rw [rcells_cons]; simp only [List.length_cons, ih]; omega
theorem rcells_one (rs : List (Int × Int × Int)) : ∀ u ∈ rcells rs, u.oneCell' = true := by
  intro u hu
  simp only [rcells, List.mem_flatMap] at hu
  obtain ⟨r, _, h⟩ := hu
  simp at h
  rcases h with rfl | rfl | rfl <;> rfl
theorem rcells_put {rs : List (Int × Int × Int)} {k : Nat} (hk : k < rs.length) : (rcells rs)[k * 3]? = some (.int .i32 (rs[k]).1) ∧ (rcells rs)[k * 3 + 1]? = some (.int .u32 (rs[k]).2.1) ∧ (rcells rs)[k * 3 + 1 + 1]? = some (.int .u32 (rs[k]).2.2) := by
  induction rs generalizing k with
  | nil => simp at hk
  | cons p r ih =>
    rw [rcells_cons]
    cases k with
    | zero => simp
    | succ k =>
      have := ih (k := k) (by simpa using hk)
      rw [show (k + 1) * 3 = k * 3 + 3 by omega, show k * 3 + 3 + 1 = k * 3 + 1 + 3 by omega, show k * 3 + 1 + 3 + 1 = k * 3 + 1 + 1 + 3 by omega]
      simpa using this

/-- A row of ranges of the call's own. -/
def OwnR (w : World) (base : Nat) (v : Value) (rs : List (Int × Int × Int)) : Prop := w.ownsRow base 30 3 v rs.length (rcells rs)
/-- A slice of ranges. -/
structure SlR (w : World) (B : Nat) (A : Option Addr) (n c : Nat) (rs : List (Int × Int × Int)) : Prop where
  len : rs.length = n
  cap : n ≤ c
  mx : c ≤ 9223372036854775807
  rd : Rd w B A (rcells rs)

section
variable {w w' : World} {base B B' n c : Nat} {A : Option Addr} {v : Value} {rs : List (Int × Int × Int)}
theorem OwnR.nil (w : World) (base : Nat) : OwnR w base (.slice none 0 0) [] := World.ownsRow_nil w base _ 3
theorem OwnR.kept {row : Option Nat} (h : OwnR w base v rs) (hg : w.grownBy w' row) (hne : v.ownBlock = none ∨ v.ownBlock ≠ row) : OwnR w' base v rs := World.ownsRow.kept h hg hne
theorem OwnR.below (h : OwnR w base v rs) (hb : Below w.heap.size w w') : OwnR w' base v rs :=
  h.kept (row := none) ⟨hb.os, hb.tape, hb.output, hb.size, fun i hi _ => hb.block i hi⟩ (by cases v.ownBlock <;> simp)
theorem OwnR.alloc (h : OwnR w base v rs) (o : Obj) : OwnR (w.alloc o) base v rs := World.ownsRow.alloc h o
theorem OwnR.lt (h : OwnR w base v rs) : ∀ k, v.ownBlock = some k → base ≤ k ∧ k < w.heap.size := World.ownsRow.lt h
theorem OwnR.sl (h : OwnR w base v rs) : ∃ A n c, v = .slice A n c ∧ SlR w w.heap.size A n c rs := by
  rcases h.2 with ⟨rfl, hn⟩ | ⟨g, cap, cur, rfl, hb, hh, hnc, hcm, hs, hx⟩
  · have hl : rs = [] := List.eq_nil_of_length_eq_zero hn
    subst hl
    exact ⟨none, 0, 0, rfl, rfl, Nat.le_refl _, by omega, .inl rfl⟩
  · refine ⟨_, _, _, rfl, rfl, hnc, by simpa [maxLen] using hcm, .inr ⟨g, 0, rfl, (h.lt g rfl).2, fun j u hu => ?_⟩⟩
    have := World.ownsRow.cells h (g := g) rfl j u hu
    rwa [Addr.add_lit] at this
theorem SlR.keep (h : SlR w B A n c rs) (hB : B ≤ B') (hk : ∀ b o, b < B → w'.cell? ⟨b, o, none⟩ = w.cell? ⟨b, o, none⟩) : SlR w' B' A n c rs := ⟨h.len, h.cap, h.mx, h.rd.keep hB hk⟩
theorem SlR.below (h : SlR w B A n c rs) (hb : Below B w w') : SlR w' B A n c rs := h.keep (Nat.le_refl _) fun b o hlt => hb.cell (p := ⟨b, o, none⟩) hlt
theorem SlR.at_ (h : SlR w B A n c rs) (hn : 0 < n) : ∃ b o, A = some ⟨b, o, none⟩ ∧ b < B ∧ ∀ k (hk : k < rs.length), w.cell? ⟨b, o + k * 3, none⟩ = some (.int .i32 (rs[k]).1) ∧ w.cell? ⟨b, o + k * 3 + 1, none⟩ = some (.int .u32 (rs[k]).2.1) ∧ w.cell? ⟨b, o + k * 3 + 1 + 1, none⟩ = some (.int .u32 (rs[k]).2.2) := by
  rcases h.rd with e | ⟨b, o, e, hb, hc⟩
  · have h1 := rcells_len rs
    have := h.len
    rw [e] at h1
    simp at h1
    omega
  · refine ⟨b, o, e, hb, fun k hk => ?_⟩
    obtain ⟨h1, h2, h3⟩ := rcells_put hk
    refine ⟨hc _ _ h1, ?_, ?_⟩
    · have := hc _ _ h2; rwa [← Nat.add_assoc] at this
    · have := hc _ _ h3; rwa [← Nat.add_assoc, ← Nat.add_assoc] at this
end

theorem infoR : (Try.prog.info? 30).map (fun i => (i.zero, i.size, i.bytes)) = some (some (.agg #[.int .i32 0, .int .u32 0, .int .u32 0]), 3, 12) := by kernel_rfl

/-- append of one range, which was laid into a block of its own first. -/
theorem wpList_apR {w : World} {ops : Array Oper} {rest : List Oper} {o : Oper} {a : Act} {Q : Exit → Act → World → Prop} (hgd : o.guard = none) (s x : Operand)
    (ho : o.op = .call { callee := .builtin .append, args := #[s, x], argTypes := #[22, 22] })
    (base : Nat) (v : Value) (l : List (Int × Int × Int)) (hs : a.eval s = v) (hown : OwnR w base v l) (g : Nat) (r : Int × Int × Int) (hx : a.eval x = .slice (some ⟨g, 0, none⟩) 1 1)
    (h1 : w.cell? ⟨g, 0, none⟩ = some (.int .i32 r.1)) (h2 : w.cell? ⟨g, 1, none⟩ = some (.int .u32 r.2.1)) (h3 : w.cell? ⟨g, 2, none⟩ = some (.int .u32 r.2.2)) (hlen : l.length + 1 ≤ 4294967296) (hbase : base ≤ w.heap.size)
    (h : ∀ v' w', OwnR w' base v' (l ++ [r]) → w.grownBy w' v.ownBlock → (v'.ownBlock = v.ownBlock ∨ v'.ownBlock = some w.heap.size) → wpList Try.prog ops Q rest (a.put o.dst v') w') :
    wpList Try.prog ops Q (o :: rest) a w := by
  obtain ⟨i0, hi0, hz0, hz1, hz2⟩ := info_parts infoR
  refine wpList_append_own_at w hgd s x 22 ho base 30 i0 _ 3 12 Try.underlying22 hi0 hz0 hz1 hz2 rfl (by omega) v l.length _ hs hown ⟨g, 0, none⟩ 1 1 (rcells [r]) hx rfl ?_ (rcells_one [r]) (by unfold maxLen; omega) (by omega) hbase ?_
  · intro j u hu
    rw [Addr.add_lit, Nat.zero_add]
    match j, hu with
    | 0, hu => simp [rcells] at hu; rw [h1, ← hu]
    | 1, hu => simp [rcells] at hu; rw [h2, ← hu]
    | 2, hu => simp [rcells] at hu; rw [h3, ← hu]
    | j + 3, hu => simp [rcells] at hu
  · intro v' w' h1 h2 _ h3
    refine h v' w' ?_ h2 h3
    unfold OwnR
    rw [List.length_append, rcells_append]; exact h1

/-- The same at a step of a region that draws its order. -/
theorem step_apR {w : World} {ops : Array Oper} {o : Oper} {a : Act} {K : Act → World → Prop} {Q : Exit → Act → World → Prop} {E : Prop} (hgd : o.guard = none) (s x : Operand)
    (ho : o.op = .call { callee := .builtin .append, args := #[s, x], argTypes := #[22, 22] })
    (base : Nat) (v : Value) (l : List (Int × Int × Int)) (hs : a.eval s = v) (hown : OwnR w base v l) (g : Nat) (r : Int × Int × Int) (hx : a.eval x = .slice (some ⟨g, 0, none⟩) 1 1)
    (h1 : w.cell? ⟨g, 0, none⟩ = some (.int .i32 r.1)) (h2 : w.cell? ⟨g, 1, none⟩ = some (.int .u32 r.2.1)) (h3 : w.cell? ⟨g, 2, none⟩ = some (.int .u32 r.2.2)) (hlen : l.length + 1 ≤ 4294967296) (hbase : base ≤ w.heap.size)
    (h : ∀ v' w', OwnR w' base v' (l ++ [r]) → w.grownBy w' v.ownBlock → (v'.ownBlock = v.ownBlock ∨ v'.ownBlock = some w.heap.size) → K (a.put o.dst v') w') :
    if Region.wanted o (yielded ops a.tmps) = true then Oper.wp Try.prog o a w K Q else E := by
  obtain ⟨i0, hi0, hz0, hz1, hz2⟩ := info_parts infoR
  refine step_append_lies w hgd s x 22 ho base 30 i0 _ 3 12 Try.underlying22 hi0 hz0 hz1 hz2 rfl (by omega) v l.length _ hs hown ⟨g, 0, none⟩ 1 1 (rcells [r]) hx rfl ?_ (rcells_one [r]) (by omega) (by unfold maxLen; omega) (by omega) hbase _ rfl ?_
  · intro j u hu
    rw [Addr.add_lit, Nat.zero_add]
    match j, hu with
    | 0, hu => simp [rcells] at hu; rw [h1, ← hu]
    | 1, hu => simp [rcells] at hu; rw [h2, ← hu]
    | 2, hu => simp [rcells] at hu; rw [h3, ← hu]
    | j + 3, hu => simp [rcells] at hu
  · intro g' cap w' k1 k2 k3 _
    refine h _ w' ?_ k2 ?_
    · unfold OwnR
      rw [List.length_append, rcells_append]; exact k1
    · rcases k3 with e | e
      · exact .inl (by rw [e]; rfl)
      · exact .inr (by rw [e]; rfl)

def GivesR (w : World) (rs : List (Int × Int × Int)) (e : Ending) (w' : World) : Prop := ∃ v, e = .returned v ∧ OwnR w' w.heap.size v rs ∧ Below w.heap.size w w'
def RngRel (w : World) (n : Nat) (ps : List (Int × Int)) (s : Int) (vo va vi : Value) (wr : World) : Prop :=
  ∃ (k : Nat) (at_ : Int), vi = .int .i64 k ∧ k ≤ n ∧ va = .int .u32 at_ ∧ at_ = sumL (ps.take k) * s ∧ OwnR wr w.heap.size vo (rangesL s 0 (ps.take k)) ∧ Below w.heap.size w wr
theorem ranges_any (A : Option Addr) (n c : Nat) (ps : List (Int × Int)) (s : Int) (w : World) (hs : Hid (SlP w w.heap.size A n c ps)) (hn : n ≤ 2147483647) (HR : Hid (RightP ps s)) :
    Calls Try.prog 14 #[.slice A n c, .int .u32 s] w (GivesR w (rangesL s 0 ps)) := by
  go_enter Try.func14, Try.ntmps14
  go_wp2
  go_loopw [5, 6, 11] (fun vo va vi wr => RngRel w n ps s vo va vi wr) (fun _ _ vi _ => n - (intOf vi).toNat)
  case atStart => exact ⟨0, 0, rfl, Nat.zero_le _, rfl, by simp [sumL], OwnR.nil _ _, Below.refl _ _⟩
  case round =>
    obtain ⟨k, a, rfl, hk, rfl, ha, hown, hb⟩ := hrel
    have HA := Lib.hid ha
    have HO := Lib.hid hown
    have HB := Lib.hid hb
    have hbs := hb.size
    have hlen : (rangesL s 0 (ps.take k)).length ≤ 2147483647 := by rw [rangesL_len]; have := List.length_take_le k ps; omega
    have HLn := Lib.hid hlen
    obtain ⟨hsc1, hsc2, _⟩ := HR.out.scale
    clear hb hown hlen
    by_cases hlt : k < n
    · have hkl : k < ps.length := by have := hs.out.len; omega
      obtain ⟨b, o, rfl, hbl, hcell⟩ := hs.out.at_ (by omega)
      obtain ⟨hc1, hc2⟩ := hcell k hkl
      rw [← HB.out.cell (p := ⟨b, o + k * 2, none⟩) hbl] at hc1
      rw [← HB.out.cell (p := ⟨b, o + k * 2 + 1, none⟩) hbl] at hc2
      have hd := take_at hkl
      have hok := hs.out.ok _ (List.getElem_mem hkl)
      have hz : b < wr.heap.size := by omega
      have hsk := sumL_take_le ps hs.out.ok (k + 1)
      have hsk0 := sumL_take_le ps hs.out.ok k
      generalize ps[k] = q at *
      obtain ⟨x, y⟩ := q
      obtain ⟨⟨x0, x1⟩, y0, y1⟩ := hok
      simp only at x0 x1 y0 y1 hc1 hc2
      rw [hd, sumL_snoc] at hsk
      have hle : (sumL (ps.take k) + y) * s ≤ sumL ps * s := Int.mul_le_mul_of_nonneg_right hsk.2 (by omega)
      rw [Int.add_mul, ← ha] at hle
      have hys : 0 ≤ y * s := Int.mul_nonneg y0 (by omega)
      have ha0 : 0 ≤ a := by rw [ha]; exact Int.mul_nonneg hsk0.1 (by omega)
      obtain ⟨m, hm2⟩ : ∃ m, y * s = m := ⟨_, rfl⟩
      rw [hm2] at hle hys
      have hm : y * s % 4294967296 = m := by rw [hm2]; omega
      have hlt2 : a + m < 4294967296 := by omega
      have HD := Lib.hid hd
      have HM := Lib.hid hm2
      clear hd hcell hkl hm2 hsk hsk0 ha hle
      go_wp2_with (at_builtin; refine wpList_apR rfl (.tmp 15) _ rfl w.heap.size u5 _ rfl ((HO.out.alloc _).alloc _) (wr.heap.size + 1) (x, a, a + m) rfl (by simp [go_sem]) (by simp [go_sem]) (by simp [go_sem]) (by have := HLn.out; omega) (by simp; omega) ?_; intro v3 w3 hown3 hg3 hat3; have HO3 := Lib.hid hown3; have HB3 := Lib.hid (((HB.out.alloc hbs _).alloc (by simp; omega) _).grown hg3 (by simp; omega) (fun k hk => (HO.out.lt k hk).1)); have ky3 := cell_grown hg3 (b := wr.heap.size) (o := 1) (v := .int .u32 y) (by simp [go_sem]) (fun e => by have := (HO.out.lt _ e).2; omega); clear hown3 hg3 hat3)
      go_roundw
      case rel =>
        refine ⟨k + 1, a + m, by go_num, by omega, rfl, by rw [HD.out, sumL_snoc, Int.add_mul, ← HA.out, HM.out], ?_, HB3.out⟩
        rw [HD.out, rangesL_snoc, Int.zero_add, ← HA.out, HM.out]
        exact HO3.out
      case measure => simp [intOf]; omega
    · clear ha
      go_wp2
      go_ret
      refine ⟨_, rfl, ?_, HB.out⟩
      have h := HO.out
      rw [List.take_of_length_le (by have := hs.out.len; omega)] at h
      exact h
theorem OwnR.slr {w : World} {base n c : Nat} {A : Option Addr} {rs : List (Int × Int × Int)} (h : OwnR w base (.slice A n c) rs) : SlR w w.heap.size A n c rs := by
  obtain ⟨A', n', c', e, h'⟩ := h.sl
  cases e
  exact h'
theorem OwnR.set {w : World} {base : Nat} {v : Value} {rs : List (Int × Int × Int)} (h : OwnR w base v rs) {a : Addr} (ha : a.block < base) (u : Value) : OwnR (w.setCell a u) base v rs :=
  h.kept (row := some a.block) ⟨rfl, rfl, rfl, by simp [World.setCell], fun i _ hne => Below.heap_setCell _ _ _ _ (fun e => hne (by rw [e]))⟩ (.inr (fun e => by have := (h.lt _ e).1; omega))

end Go.Proofs.Ytmadidaiaggheaa
