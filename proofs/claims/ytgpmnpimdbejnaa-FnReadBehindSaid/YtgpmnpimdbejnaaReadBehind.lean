/- The walk of the law FnReadBehind. -/
import Derived.Test.YtgpmnpimdbejnaaReadLaws
namespace Go.Proofs.Ytgpmnpimdbejnaa
open Go.RowKit
set_option linter.unusedVariables false

/-- An operation whose guard says yes is as one without a guard. -/
theorem wpList_unguard {P : Program} {ops : Array Oper} {Q : Exit → Act → World → Prop} {a : Act} {w : World} {rest : List Oper} {dst : Option Tmp} {op : Op} {ty : TypeId} {pos : String} {after : Array Edge} {g : Option (Nat × Bool)}
    (hw : Region.wanted { dst, op, type := ty, pos, after, guard := g } (yielded ops a.tmps) = true) (h : wpList P ops Q ({ dst, op, type := ty, pos, after, guard := none } :: rest) a w) :
    wpList P ops Q ({ dst, op, type := ty, pos, after, guard := g } :: rest) a w := by
  unfold wpList at h ⊢
  rw [if_pos hw]
  rw [if_pos (by simp [Region.wanted])] at h
  exact h

theorem fnReadBehind_main (A : Option Addr) (n c : Nat) (ps : List (Int × Int)) (s : Int) (A2 : Option Addr) (n2 c2 : Nat) (l2 : List UInt8) (w : World) (hs : Hid (SlP w w.heap.size A n c ps)) (hs2 : Hid (Sl w w.heap.size A2 n2 c2 l2)) (hn : n ≤ 2147483647) (hn2 : n2 ≤ 2147483647) (s0 : 0 ≤ s) (s1 : s < 4294967296) :
    Calls Try.prog 7 #[.slice A n c, .int .u32 s, .slice A2 n2 c2] w (Lawful w) := by
  go_enter Try.func7, Try.ntmps7
  go_wp2_with fail
  refine (right_any A n c ps s w hs s0 s1).mono ?_
  rintro e w1 ⟨r, rfl, hr, hb1⟩
  have HB1 := Lib.hid hb1
  cases r
  · clear hr hb1
    go_wp2
    go_ret
    exact ⟨rfl, HB1.out⟩
  have HR := Lib.hid (hr rfl)
  have hz1 := hb1.size
  have HS1 := Lib.hid (show SlP w1 w1.heap.size A n c ps from (hs.out.below hb1).keep hz1 (fun _ _ _ => rfl))
  clear hr hb1
  go_wp2_with fail
  refine (table_any A n c ps w1 HS1 hn).mono ?_
  rintro e w2 ⟨v2, rfl, hown2, hb2⟩
  have hz2 := hb2.size
  have HO2 := Lib.hid hown2
  have HB2 := Lib.hid (HB1.out.trans (hb2.mono hz1))
  have HP2 := Lib.hid (show SlP w2 w2.heap.size A n c ps from (HS1.out.below hb2).keep hz2 (fun _ _ _ => rfl))
  have HT2 := Lib.hid (hs2.out.below HB2.out)
  have HL := Lib.hid (show (tableB (-1) ps).length + l2.length ≤ 70368744177664 by have h1 := tableB_len (-1) ps hs.out.ok; have h2 := hs.out.len; have h3 := hs2.out.len; omega)
  clear hown2 hb2
  go_wp2_with (at_builtin; refine wpList_unguard (by rfl) ?_; refine wpList_ap8 rfl (.tmp 21) _ rfl w1.heap.size v2 _ rfl HO2.out w.heap.size A2 n2 c2 l2 rfl HT2.out (by have := HL.out; omega) (by omega) ?_; intro v3 w3 hown3 hg3 _; have HO3 := Lib.hid hown3; have HB3 := Lib.hid (HB2.out.grown hg3 (by omega) (fun k hk => by have := (HO2.out.lt k hk).1; omega)); have hz3 := hg3.size; have HP3 := Lib.hid (show SlP w3 w3.heap.size A n c ps from (hs.out.below HB3.out).keep (by have := HB3.out.size; omega) (fun _ _ _ => rfl)); obtain ⟨A3, n3, c3, rfl, hs3⟩ := hown3.sl; have HS3 := Lib.hid hs3; clear hown3 hg3 hs3)
  refine (read_any A3 n3 c3 w3.heap.size s ps l2 w3 HR (Lib.hid hs.out.ok) (Lib.hid (by have h := HS3.out; unfold tableB at h; rw [List.append_assoc] at h; exact h)) (Nat.le_refl _) (Lib.hid (by have h := HL.out; unfold tableB at h; unfold leftB; simp only [List.length_append, List.length_cons, List.length_nil] at h ⊢; omega)) (by have := hs.out.len; omega)).mono ?_
  rintro e w4 ⟨v4, rfl, hown4, hb4⟩
  have hz4 := hb4.size
  have HO4 := Lib.hid hown4
  have HB4 := Lib.hid (HB3.out.trans (hb4.mono (by have := HB3.out.size; omega)))
  have HP4 := Lib.hid (show SlP w4 w4.heap.size A n c ps from (HP3.out.below hb4).keep hz4 (fun _ _ _ => rfl))
  clear hown4 hb4
  go_wp2_with fail
  refine (ranges_any A n c ps s w4 HP4 hn HR).mono ?_
  rintro e w5 ⟨v5, rfl, hown5, hb5⟩
  have hz5 := hb5.size
  obtain ⟨A5, n5, c5, rfl, hs5⟩ := hown5.sl
  obtain ⟨A4, n4, c4, rfl, hs4⟩ := (HO4.out.below hb5).sl
  have HS4 := Lib.hid hs4
  have HS5 := Lib.hid hs5
  have HB5 := Lib.hid (HB4.out.trans (hb5.mono (by have := HB4.out.size; omega)))
  clear hown5 hs5 hs4 hb5
  go_wp2_with fail
  refine (sameR_any A4 A5 n4 n5 c4 c5 _ w5 HS4.out HS5.out).mono ?_
  rintro e w6 ⟨rfl, hb6⟩
  have HB6 := Lib.hid (HB5.out.trans (hb6.mono (by have := HB5.out.size; omega)))
  clear hb6
  go_wp2
  go_ret
  exact ⟨rfl, HB6.out⟩
theorem fnReadBehind_walk (A0 : Option Addr) (n0 c0 : Nat) (l0 : List (Int × Int)) (a1 : Int) (w1 : (Lit.int .u32 a1).wf = true) (A2 : Option Addr) (n2 c2 : Nat) (l2 : List UInt8) (w : World) (s0 : SlP w w.heap.size A0 n0 c0 l0) (s2 : Sl w w.heap.size A2 n2 c2 l2) :
    Calls Try.prog 7 #[.slice A0 n0 c0, .int .u32 a1, .slice A2 n2 c2] w (Lawful w) := by
  obtain ⟨q0, q1⟩ := bounds_u32 w1
  have hm := s0.mx
  have hc := s0.cap
  have hm2 := s2.mx
  have hc2 := s2.cap
  by_cases hn : n0 ≤ 2147483647
  · by_cases hn2 : n2 ≤ 2147483647
    · exact fnReadBehind_main A0 n0 c0 l0 a1 A2 n2 c2 l2 w (Lib.hid s0) (Lib.hid s2) hn hn2 q0 (by omega)
    · clear s0 s2 w1
      go_enter Try.func7, Try.ntmps7
      go_wp2_with fail
      go_ret
      exact ⟨rfl, Below.refl _ _⟩
  · clear s0 s2 w1
    go_enter Try.func7, Try.ntmps7
    go_wp2_with fail
    go_ret
    exact ⟨rfl, Below.refl _ _⟩
end Go.Proofs.Ytgpmnpimdbejnaa
