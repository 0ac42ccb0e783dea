/- The walk of the law FnStepEnd. -/
import Derived.Test.YtmnjcngjhpdmeaaZStep
import Derived.Test.YtmnjcngjhpdmeaaLaw
namespace Go.Proofs.Ytmnjcngjhpdmeaa
open Go.RowKit
set_option linter.unusedVariables false
attribute [local go_sem ↓] Go.wp_at_zero Go.wp_at_succ

/-- append onto a row of bytes of the call's own, whatever the source is: at a step of a region that draws its order. -/
theorem step_ap8 {w : World} {ops : Array Oper} {o : Oper} {a : Act} {K : Act → World → Prop} {Q : Exit → Act → World → Prop} {E : Prop} (hgd : o.guard = none) (s x : Operand)
    (ho : o.op = .call { callee := .builtin .append, args := #[s, x], argTypes := #[23, 23] })
    (base : Nat) (v : Value) (l : List UInt8) (hs : a.eval s = v) (hown : Own8 w base v l) (B : Nat) (A : Option Addr) (m c : Nat) (l2 : List UInt8) (hx : a.eval x = .slice A m c) (hr : Sl w B A m c l2)
    (hlen : l.length + l2.length ≤ 140737488355328) (hbase : base ≤ w.heap.size)
    (h : ∀ v' w', Own8 w' base v' (l ++ l2) → w.grownBy w' v.ownBlock → (v'.ownBlock = v.ownBlock ∨ v'.ownBlock = some w.heap.size) → K (a.put o.dst v') w') :
    if Region.wanted o (yielded ops a.tmps) = true then Oper.wp Try.prog o a w K Q else E := by
  have hw : Region.wanted o (yielded ops a.tmps) = true := by simp [Region.wanted, hgd]
  rw [if_pos hw]
  obtain ⟨i0, hi0, hz0, hz1, hz2⟩ := info_parts info8
  have hm := hr.len
  subst hm
  rcases A with _ | ad
  · have hc := hr.nil rfl
    subst hc
    have h0 : l2 = [] := List.eq_nil_of_length_eq_zero (by have := hr.cap; omega)
    subst h0
    have hrun := run_append_owned_none (P := Try.prog) (w := w) base 23 o.type 5 i0 1 Try.underlying23 hi0 v l.length _ hown
    unfold Oper.wp
    simp [execOp, ho, resolve, invoke, builtin, hs, hx, hrun, Result.andThen]
    exact h v w (by rw [List.append_nil]; exact hown) (World.grownBy.refl w _) (.inl rfl)
  · obtain ⟨v', w', hrun, h1, h2, _, h3⟩ := run_append_own_at (P := Try.prog) w base 23 o.type 5 i0 (.int .u8 0) 1 1 Try.underlying23 hi0 hz0 hz1 hz2 rfl (by omega) v l.length _ hown ad l2.length c (Lib.byteCells l2) (by rw [Lib.byteCells_length, Nat.mul_one])
      (by
        intro j u hu
        rcases hr.rd with e | ⟨b, o, e, hb, hc⟩
        · rw [e] at hu; simp at hu
        · cases e
          rw [Addr.add_lit]; exact hc j u hu)
      (byteCells_one l2) (by unfold maxLen; omega) (by omega) hbase
    unfold Oper.wp execOp
    simp only [ho, resolve, invoke, builtin, Sem.run_bind, Sem.run_pure, Result.andThen_ok, List.map_toArray, List.map_cons, List.map_nil, hs, hx, hrun]
    refine h v' w' ?_ h2 h3
    unfold Own8
    rw [List.length_append, byteCells_append]; exact h1

/-- What holds in the region that draws: the point lies in block g. -/
structure SeI (w0 : World) (g : Nat) (pc val : Int) (W : World) : Prop where
  below : Below w0.heap.size w0 W
  lt : g < W.heap.size
  c0 : W.cell? ⟨g, 0, none⟩ = some (.int .u64 pc)
  c1 : W.cell? ⟨g, 1, none⟩ = some (.int .i32 val)
theorem SeI.next {w0 W W' : World} {g : Nat} {pc val : Int} (h : SeI w0 g pc val W) (hb : Below W.heap.size W W') : SeI w0 g pc val W' :=
  ⟨h.below.trans (hb.mono h.below.size), Nat.lt_of_lt_of_le h.lt hb.size, (hb.cell (p := ⟨g, 0, none⟩) h.lt).trans h.c0, (hb.cell (p := ⟨g, 1, none⟩) h.lt).trans h.c1⟩
theorem SeI.alloc {w0 W : World} {g : Nat} {pc val : Int} (h : SeI w0 g pc val W) (o : Obj) : SeI w0 g pc val (W.alloc o) := h.next ((Below.refl _ _).alloc (Nat.le_refl _) _)
theorem SeI.grown {w0 W W' : World} {g : Nat} {pc val : Int} {row : Option Nat} (h : SeI w0 g pc val W) (hg : W.grownBy W' row) (hr : ∀ k, row = some k → w0.heap.size ≤ k ∧ k ≠ g) : SeI w0 g pc val W' :=
  ⟨h.below.grown hg h.below.size (fun k hk => (hr k hk).1), Nat.lt_of_lt_of_le h.lt hg.size, hg.cell h.c0 (fun e => (hr g e.symm).2 rfl), hg.cell h.c1 (fun e => (hr g e.symm).2 rfl)⟩
theorem SeI.set {w0 W : World} {g : Nat} {pc val : Int} (h : SeI w0 g pc val W) {p : Addr} (hp : w0.heap.size ≤ p.block) (hne : g ≠ p.block) (u : Value) : SeI w0 g pc val (W.setCell p u) :=
  ⟨h.below.setCell hp u, by simpa [World.setCell] using h.lt, (World.cell?_setCell_other W p ⟨g, 0, none⟩ u (fun e => hne (by rw [e]))).trans h.c0, (World.cell?_setCell_other W p ⟨g, 1, none⟩ u (fun e => hne (by rw [e]))).trans h.c1⟩

theorem SeI.set2 {w0 W : World} {g G : Nat} {pc val : Int} (h : SeI w0 g pc val W) (h0 : w0.heap.size ≤ g) (hG : g < G) (u v : Value) : SeI w0 g pc val ((W.setCell ⟨G, 0, none⟩ u).setCell ⟨G, 1, none⟩ v) :=
  (h.set (p := ⟨G, 0, none⟩) (Nat.le_trans h0 (Nat.le_of_lt hG)) (Nat.ne_of_lt hG) u).set (p := ⟨G, 1, none⟩) (Nat.le_trans h0 (Nat.le_of_lt hG)) (Nat.ne_of_lt hG) v

theorem step_call (q pc val : Int) (A : Option Addr) (n c : Nat) (l : List UInt8) (w : World) (hl : l.length ≤ 2147483647) (HS : Hid (Sl w w.heap.size A n c ([0] ++ l))) (W : World) (hb : Below w.heap.size w W) :
    Calls Try.prog 16 #[.int .u32 q, .slice A n c, .agg #[.int .u64 pc, .int .i32 val], .bool false] W (fun e W' => (∃ A n c, e = .returned (.tuple #[.agg #[.int .u64 pc, .int .i32 val], .slice A n c, .bool false])) ∧ Below W.heap.size W W') := by
  refine (istep_of q pc val pc val false false A n c w.heap.size ([0] ++ l) l W (Lib.hid (HS.out.below hb)) hb.size (Lib.hid (by simp; omega)) (Lib.hid (by omega)) (Lib.hid (fun A n c B w hs hB => zstep_end q pc val A n c B l w (Lib.hid hs) hB))).mono ?_
  rintro e w5 ⟨A5, n5, c5, rfl, hs5, hb5⟩
  exact ⟨⟨A5, n5, c5, rfl⟩, hb5⟩

theorem zz1 : Lib.uvarint (Lib.zigzag 1) = [2] := by rw [show Lib.zigzag 1 = 2 by decide +kernel, Lib.uvarint_small (by omega)]; rfl
theorem uu1 : Lib.uvarint ((1 : Int).toNat) = [1] := by rw [show ((1 : Int)).toNat = 1 from rfl, Lib.uvarint_small (by omega)]; rfl
theorem step_210 {w : World} {g : Nat} {pc val : Int} (W : World) (h : SeI w g pc val W) (G : Nat) (hG : W.heap.size = G) :
    Calls Try.prog 16 #[.int .u32 1, .slice (some ⟨G, 0, none⟩) 3 3, .agg #[.int .u64 0, .int .i32 0], .bool false] (W.alloc (.cells #[.int .u8 2, .int .u8 1, .int .u8 0] 5)) (fun e W' => (∃ A n c, e = .returned (.tuple #[.agg #[.int .u64 1, .int .i32 1], .slice A n c, .bool true])) ∧ SeI w g pc val W') := by
  subst hG
  have hs : Sl (W.alloc (.cells #[.int .u8 2, .int .u8 1, .int .u8 0] 5)) (W.heap.size + 1) (some ⟨W.heap.size, 0, none⟩) 3 3 (Lib.uvarint (Lib.zigzag 1) ++ (Lib.uvarint ((1 : Int).toNat) ++ [0])) := by
    rw [zz1, uu1]
    refine ⟨rfl, by omega, by omega, fun e => (by cases e), .inr ⟨W.heap.size, 0, rfl, by omega, fun j u hu => ?_⟩⟩
    rw [Nat.zero_add, cell_of_row _ _ j _ _ _ (heap_alloc_new W _)]
    simpa [Lib.byteCells] using hu
  refine (istep_of 1 0 0 (0 + 1) (wrap32 (0 + 1)) false true _ 3 3 (W.heap.size + 1) _ [0] _ (Lib.hid hs) (by simp) (Lib.hid (by rw [zz1, uu1]; simp)) (Lib.hid (by simp))
    (Lib.hid (fun A n c B w hs hB => zstep_any 1 0 0 1 1 1 false A n c B [0] w (Lib.hid hs) hB (by omega) (by omega) (by omega) (by omega) (Lib.hid (.inl (by omega))) (Lib.hid (by omega)) (by omega) (by omega)))).mono ?_
  rintro e w5 ⟨A5, n5, c5, rfl, _, hb5⟩
  refine ⟨⟨A5, n5, c5, ?_⟩, (h.alloc _).next hb5⟩
  rw [show (0 : Int) + 1 = 1 from rfl, show wrap32 1 = 1 by decide +kernel]

theorem own_new (W : World) (base g : Nat) (hg : W.heap.size = g) (hb : base ≤ g) : Own8 (W.alloc (.cells #[.int .u8 0] 5)) base (.slice (some ⟨g, 0, none⟩) 1 1) [0] := by
  subst hg
  exact ⟨rfl, .inr ⟨W.heap.size, 1, #[.int .u8 0], rfl, hb, heap_alloc_new W _, Nat.le_refl _, by unfold maxLen; omega, rfl, rfl⟩⟩
theorem lt_alloc (w : World) (o : Obj) : w.heap.size < (w.alloc o).heap.size := by rw [size_alloc]; omega
theorem free_of_row (w : World) (b i : Nat) (cs : Array Value) (t : TypeId) (h : w.heap[b]? = some (.cells cs t (0, 0))) : w.frozen? ⟨b, i, none⟩ = false := by simp [World.frozen?, h]
theorem row_of (g b c : Nat) (h1 : b ≤ g) (h2 : g ≠ c) : ∀ k, (Value.slice (some ⟨g, 0, none⟩) 1 1).ownBlock = some k → b ≤ k ∧ k ≠ c := fun k hk => by
  obtain rfl : g = k := by simpa [Value.ownBlock] using hk
  exact ⟨h1, h2⟩
theorem size_drew (w : World) : w.drew.heap.size = w.heap.size := rfl

set_option maxHeartbeats 4000000 in
theorem fnStepEnd_main (q pc val : Int) (A : Option Addr) (n c : Nat) (l : List UInt8) (w : World) (hs : Hid (Sl w w.heap.size A n c l)) (hn : n ≤ 2147483647) :
    Calls Try.prog 7 #[.int .u32 q, .slice A n c, .agg #[.int .u64 pc, .int .i32 val]] w (Lawful w) := by
  have HL := Lib.hid (show l.length ≤ 2147483647 by have := hs.out.len; omega)
  have HS0 : Hid (Sl (w.alloc (.cells #[.int .u64 pc, .int .i32 val] 33)).drew w.heap.size A n c l) := Lib.hid ((hs.out.alloc (Nat.le_refl _) _).drew)
  have HI : Hid (SeI w w.heap.size pc val (w.alloc (.cells #[.int .u64 pc, .int .i32 val] 33)).drew) := Lib.hid ⟨((Below.refl _ _).alloc (Nat.le_refl _) _).drew, by rw [size_drew, size_alloc]; omega, cell_of_row _ _ 0 _ _ (0, 0) (heap_alloc_new w _), cell_of_row _ _ 1 _ _ (0, 0) (heap_alloc_new w _)⟩
  have HSa : Hid (Sl ((w.alloc (.cells #[.int .u64 pc, .int .i32 val] 33)).drew.alloc (.cells #[.int .u8 0] 5)) w.heap.size A n c l) := Lib.hid (HS0.out.alloc (by rw [size_drew, size_alloc]; omega) _)
  have HIa : Hid (SeI w w.heap.size pc val ((w.alloc (.cells #[.int .u64 pc, .int .i32 val] 33)).drew.alloc (.cells #[.int .u8 0] 5))) := Lib.hid (HI.out.alloc _)
  have HOa : Hid (Own8 ((w.alloc (.cells #[.int .u64 pc, .int .i32 val] 33)).drew.alloc (.cells #[.int .u8 0] 5)) (w.heap.size + 1) (.slice (some ⟨w.heap.size + 1, 0, none⟩) 1 1) [0]) := Lib.hid (own_new _ _ _ (by rw [size_drew, size_alloc]) (Nat.le_refl _))
  have HSb : Hid (Sl (((w.alloc (.cells #[.int .u64 pc, .int .i32 val] 33)).drew.alloc (.cells #[.int .u8 0] 5)).alloc (.cells #[.int .u64 0, .int .i32 0] 33)) w.heap.size A n c l) := Lib.hid (HSa.out.alloc (by rw [size_alloc, size_drew, size_alloc]; omega) _)
  have HIb : Hid (SeI w w.heap.size pc val (((w.alloc (.cells #[.int .u64 pc, .int .i32 val] 33)).drew.alloc (.cells #[.int .u8 0] 5)).alloc (.cells #[.int .u64 0, .int .i32 0] 33))) := Lib.hid (HIa.out.alloc _)
  have HOb : Hid (Own8 (((w.alloc (.cells #[.int .u64 pc, .int .i32 val] 33)).drew.alloc (.cells #[.int .u8 0] 5)).alloc (.cells #[.int .u64 0, .int .i32 0] 33)) (w.heap.size + 1) (.slice (some ⟨w.heap.size + 1, 0, none⟩) 1 1) [0]) := Lib.hid (HOa.out.alloc _)
  have HZb : Hid (w.heap.size + 1 + 1 < (((w.alloc (.cells #[.int .u64 pc, .int .i32 val] 33)).drew.alloc (.cells #[.int .u8 0] 5)).alloc (.cells #[.int .u64 0, .int .i32 0] 33)).heap.size) := Lib.hid (by rw [size_alloc, size_alloc, size_drew, size_alloc]; omega)
  have HTb0 : Hid ((((w.alloc (.cells #[.int .u64 pc, .int .i32 val] 33)).drew.alloc (.cells #[.int .u8 0] 5)).alloc (.cells #[.int .u64 0, .int .i32 0] 33)).heap[w.heap.size + 1 + 1]? = some (.cells #[.int .u64 0, .int .i32 0] 33 (0, 0))) := Lib.hid (by
    have h := heap_alloc_new ((w.alloc (.cells #[.int .u64 pc, .int .i32 val] 33)).drew.alloc (.cells #[.int .u8 0] 5)) (.cells #[.int .u64 0, .int .i32 0] 33)
    rw [size_alloc, size_drew, size_alloc] at h
    exact h)
  have HSc : Hid (Sl (((w.alloc (.cells #[.int .u64 pc, .int .i32 val] 33)).drew.alloc (.cells #[.int .u64 0, .int .i32 0] 33)).alloc (.cells #[.int .u8 0] 5)) w.heap.size A n c l) := Lib.hid ((HS0.out.alloc (by rw [size_drew, size_alloc]; omega) _).alloc (by rw [size_alloc, size_drew, size_alloc]; omega) _)
  have HIc : Hid (SeI w w.heap.size pc val (((w.alloc (.cells #[.int .u64 pc, .int .i32 val] 33)).drew.alloc (.cells #[.int .u64 0, .int .i32 0] 33)).alloc (.cells #[.int .u8 0] 5))) := Lib.hid ((HI.out.alloc _).alloc _)
  have HOc : Hid (Own8 (((w.alloc (.cells #[.int .u64 pc, .int .i32 val] 33)).drew.alloc (.cells #[.int .u64 0, .int .i32 0] 33)).alloc (.cells #[.int .u8 0] 5)) (w.heap.size + 1) (.slice (some ⟨w.heap.size + 1 + 1, 0, none⟩) 1 1) [0]) := Lib.hid (own_new _ _ _ (by rw [size_alloc, size_drew, size_alloc]) (by omega))
  have HZc : Hid (w.heap.size + 1 < (((w.alloc (.cells #[.int .u64 pc, .int .i32 val] 33)).drew.alloc (.cells #[.int .u64 0, .int .i32 0] 33)).alloc (.cells #[.int .u8 0] 5)).heap.size) := Lib.hid (by rw [size_alloc, size_alloc, size_drew, size_alloc]; omega)
  have HTc0 : Hid ((((w.alloc (.cells #[.int .u64 pc, .int .i32 val] 33)).drew.alloc (.cells #[.int .u64 0, .int .i32 0] 33)).alloc (.cells #[.int .u8 0] 5)).heap[w.heap.size + 1]? = some (.cells #[.int .u64 0, .int .i32 0] 33 (0, 0))) := Lib.hid (by
    have h := heap_alloc_new (w.alloc (.cells #[.int .u64 pc, .int .i32 val] 33)).drew (.cells #[.int .u64 0, .int .i32 0] 33)
    have h2 := Below.heap_alloc ((w.alloc (.cells #[.int .u64 pc, .int .i32 val] 33)).drew.alloc (.cells #[.int .u64 0, .int .i32 0] 33)) (.cells #[.int .u8 0] 5) (w.heap.size + 1) (by rw [size_alloc, size_drew, size_alloc]; omega)
    rw [size_drew, size_alloc] at h
    exact h2.trans h)
  have HLa : Hid ([(0 : UInt8)].length + l.length ≤ 140737488355328) := Lib.hid (by have := HL.out; simp; omega)
  have HWa : Hid (w.heap.size + 1 ≤ ((w.alloc (.cells #[.int .u64 pc, .int .i32 val] 33)).drew.alloc (.cells #[.int .u8 0] 5)).heap.size) := Lib.hid (by rw [size_alloc, size_drew, size_alloc]; omega)
  have HWb : Hid (w.heap.size + 1 ≤ (((w.alloc (.cells #[.int .u64 pc, .int .i32 val] 33)).drew.alloc (.cells #[.int .u8 0] 5)).alloc (.cells #[.int .u64 0, .int .i32 0] 33)).heap.size) := Lib.hid (by rw [size_alloc, size_alloc, size_drew, size_alloc]; omega)
  have HWc : Hid (w.heap.size + 1 ≤ (((w.alloc (.cells #[.int .u64 pc, .int .i32 val] 33)).drew.alloc (.cells #[.int .u64 0, .int .i32 0] 33)).alloc (.cells #[.int .u8 0] 5)).heap.size) := Lib.hid (by rw [size_alloc, size_alloc, size_drew, size_alloc]; omega)
  have HRa := Lib.hid (row_of (w.heap.size + 1) w.heap.size w.heap.size (by omega) (by omega))
  have HRc := Lib.hid (row_of (w.heap.size + 1 + 1) w.heap.size w.heap.size (by omega) (by omega))
  have HY := Lib.hid (show w.heap.size < w.heap.size + 1 + 1 by omega)
  have HNb : Hid (some (w.heap.size + 1 + 1) ≠ (Value.slice (some ⟨w.heap.size + 1, 0, none⟩) 1 1).ownBlock) := Lib.hid (by simp [Value.ownBlock])
  have HNc : Hid (some (w.heap.size + 1) ≠ (Value.slice (some ⟨w.heap.size + 1 + 1, 0, none⟩) 1 1).ownBlock) := Lib.hid (by simp [Value.ownBlock])
  clear HS0
  go_enter Try.func7, Try.ntmps7
  go_wp2_with fail
  go_region_held3 (fun W => W.cell? ⟨w.heap.size, 0, none⟩ = some (.int .u64 pc) ∧ W.cell? ⟨w.heap.size, 1, none⟩ = some (.int .i32 val))
    (first | go_keep | exact ⟨HI.out.c0, HI.out.c1⟩ | exact ⟨(HI.out.alloc _).c0, (HI.out.alloc _).c1⟩ | exact ⟨HIa.out.c0, HIa.out.c1⟩ | exact ⟨HIb.out.c0, HIb.out.c1⟩ | exact ⟨HIc.out.c0, HIc.out.c1⟩ | exact ⟨(HI.out.set2 (Nat.le_refl _) hz3 _ _).c0, (HI.out.set2 (Nat.le_refl _) hz3 _ _).c1⟩ | exact ⟨((HI.out.alloc _).set2 (Nat.le_refl _) HI.out.lt _ _).c0, ((HI.out.alloc _).set2 (Nat.le_refl _) HI.out.lt _ _).c1⟩)
    (first
      | (refine step_ap8 ?_ (.tmp 18) (.tmp 19) ?_ (w.heap.size + 1) _ [0] ?_ HOa.out w.heap.size A n c l ?_ HSa.out ?_ ?_ ?_; rfl; rfl; rfl; rfl; (exact HLa.out); (exact HWa.out); intro v3 w3 hown3 hg3 _; obtain ⟨A3, n3, c3, rfl, hs3⟩ := hown3.sl; have HS3 := Lib.hid hs3; have hi3 := HIa.out.grown hg3 HRa.out; have HI := Lib.hid hi3; have hz3 := hi3.lt; have k1 := hi3.c0; have k2 := hi3.c1; clear hown3 hg3 hi3 hs3)
      | (refine step_ap8 ?_ (.tmp 18) (.tmp 19) ?_ (w.heap.size + 1) _ [0] ?_ HOb.out w.heap.size A n c l ?_ HSb.out ?_ ?_ ?_; rfl; rfl; rfl; rfl; (exact HLa.out); (exact HWb.out); intro v3 w3 hown3 hg3 _; obtain ⟨A3, n3, c3, rfl, hs3⟩ := hown3.sl; have HS3 := Lib.hid hs3; have hi3 := HIb.out.grown hg3 HRa.out; have HI := Lib.hid hi3; have hz3 := HY.out; have HTb := Lib.hid (And.intro (Nat.lt_of_lt_of_le HZb.out hg3.size) ((hg3.block _ HZb.out HNb.out).trans HTb0.out)); have k1 := hi3.c0; have k2 := hi3.c1; clear hown3 hg3 hi3 hs3)
      | (refine step_ap8 ?_ (.tmp 18) (.tmp 19) ?_ (w.heap.size + 1) _ [0] ?_ HOc.out w.heap.size A n c l ?_ HSc.out ?_ ?_ ?_; rfl; rfl; rfl; rfl; (exact HLa.out); (exact HWc.out); intro v3 w3 hown3 hg3 _; obtain ⟨A3, n3, c3, rfl, hs3⟩ := hown3.sl; have HS3 := Lib.hid hs3; have hi3 := HIc.out.grown hg3 HRc.out; have HI := Lib.hid hi3; have hz3 : w.heap.size < w.heap.size + 1 := Nat.lt_succ_self _; have HTc := Lib.hid (And.intro (Nat.lt_of_lt_of_le HZc.out hg3.size) ((hg3.block _ HZc.out HNc.out).trans HTc0.out)); have k1 := hi3.c0; have k2 := hi3.c1; clear hown3 hg3 hi3 hs3)
      | (go_at_call 16; refine (step_call q pc val A3 n3 c3 l w3 HL.out HS3 _ ?_).mono ?_; (exact (Below.refl _ _).alloc (Nat.le_refl _) _); rintro e w5 ⟨⟨A5, n5, c5, rfl⟩, hb5⟩; have hi5 := (HI.out.alloc _).next hb5; have HI := Lib.hid hi5; have k3 := hi5.c0; have k4 := hi5.c1; have hblk : w5.heap[w3.heap.size]? = some (.cells #[.int .u64 0, .int .i32 0] 33 (0, 0)) := (hb5.block _ (lt_alloc w3 _)).trans (heap_alloc_new w3 _); have q1 : w5.cell? ⟨w3.heap.size, 0, none⟩ = some (.int .u64 0) := cell_of_row w5 _ 0 _ _ _ hblk; have q2 : w5.cell? ⟨w3.heap.size, 1, none⟩ = some (.int .i32 0) := cell_of_row w5 _ 1 _ _ _ hblk; have q3 := free_of_row w5 _ 0 _ _ hblk; have q4 := free_of_row w5 _ 1 _ _ hblk; clear hb5 hi5 hblk)
      | (go_at_call 16; refine (step_call q pc val A3 n3 c3 l w3 HL.out HS3 _ ?_).mono ?_; (exact Below.refl _ _); rintro e w5 ⟨⟨A5, n5, c5, rfl⟩, hb5⟩; have hblk := (hb5.block _ HTb.out.1).trans HTb.out.2; have hi5 := HI.out.next hb5; have HI := Lib.hid hi5; have k3 := hi5.c0; have k4 := hi5.c1; have q1 := cell_of_row w5 _ 0 _ _ _ hblk; have q2 := cell_of_row w5 _ 1 _ _ _ hblk; have q3 := free_of_row w5 _ 0 _ _ hblk; have q4 := free_of_row w5 _ 1 _ _ hblk; clear hb5 hi5 hblk)
      | (go_at_call 16; refine (step_call q pc val A3 n3 c3 l w3 HL.out HS3 _ ?_).mono ?_; (exact Below.refl _ _); rintro e w5 ⟨⟨A5, n5, c5, rfl⟩, hb5⟩; have hblk := (hb5.block _ HTc.out.1).trans HTc.out.2; have hi5 := HI.out.next hb5; have HI := Lib.hid hi5; have k3 := hi5.c0; have k4 := hi5.c1; have q1 := cell_of_row w5 _ 0 _ _ _ hblk; have q2 := cell_of_row w5 _ 1 _ _ _ hblk; have q3 := free_of_row w5 _ 0 _ _ hblk; have q4 := free_of_row w5 _ 1 _ _ hblk; clear hb5 hi5 hblk)
      | (go_at_call 16; refine (step_call q pc val A3 n3 c3 l w3 HL.out HS3 _ ?_).mono ?_; (exact Below.refl _ _); rintro e w5 ⟨⟨A5, n5, c5, rfl⟩, hb5⟩; have hi5 := HI.out.next hb5; have HI := Lib.hid hi5; have k3 := hi5.c0; have k4 := hi5.c1; clear hb5 hi5)
      | (fail))
  all_goals
    go_wp2_with fail
    refine (step_210 (w := w) (g := w.heap.size) (pc := pc) (val := val) _ ?_ _ ?_).mono ?_
    · first
        | exact HI.out.set2 (Nat.le_refl _) hz3 _ _
        | exact HI.out.alloc _
    · simp [World.setCell]
    rintro e w7 ⟨⟨A7, n7, c7, rfl⟩, h7⟩
    have HB7 := Lib.hid h7.below
    have hz7 : w.heap.size ≤ w7.heap.size := Nat.le_of_lt h7.lt
    clear h7
    go_wp2
    go_ret
    exact ⟨rfl, HB7.out.alloc hz7 _⟩
theorem fnStepEnd_walk (a0 : Int) (w0 : (Lit.int .u32 a0).wf = true) (A1 : Option Addr) (n1 c1 : Nat) (l1 : List UInt8) (a2 b2 : Int) (w2 : (Lit.int .u64 a2).wf = true) (x2 : (Lit.int .i32 b2).wf = true) (w : World) (s1 : Sl w w.heap.size A1 n1 c1 l1) :
    Calls Try.prog 7 #[.int .u32 a0, .slice A1 n1 c1, .agg #[.int .u64 a2, .int .i32 b2]] w (Lawful w) := by
  have hm := s1.mx
  have hc := s1.cap
  by_cases hn : n1 ≤ 2147483647
  · exact fnStepEnd_main a0 a2 b2 A1 n1 c1 l1 w (Lib.hid s1) hn
  · clear s1 w0 w2 x2
    go_enter Try.func7, Try.ntmps7
    go_wp2_with fail
    go_ret
    exact ⟨rfl, (Below.refl _ _).alloc (Nat.le_refl _) _⟩
end Go.Proofs.Ytmnjcngjhpdmeaa
