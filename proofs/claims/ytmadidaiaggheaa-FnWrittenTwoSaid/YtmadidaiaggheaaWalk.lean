/- The contracts of NewPCIter, Init, of the steps of a PCIter over a table, and of SameRanges. -/
import Derived.Test.YtmadidaiaggheaaIter
import Derived.Test.YtmadidaiaggheaaPlS
import Derived.Test.YtmadidaiaggheaaRng
namespace Go.Proofs.Ytmadidaiaggheaa
open Go.RowKit
set_option linter.unusedVariables false

theorem newIter_any (sc : Int) (w : World) :
    Calls Try.prog 28 #[.int .u32 sc] w fun e w' => e = .returned (.pointer (some ⟨w.heap.size, 0, none⟩)) ∧ w' = w.alloc (.cells #[.slice none 0 0, .int .u32 0, .int .u32 0, .int .u32 sc, .int .i32 0, .bool false, .bool false] 60) := by
  go_enter Try.func28, Try.ntmps28
  go_wp2
  go_ret
  exact ⟨rfl, rfl⟩

/-- The bytes that are left: pieces, the end, and what stands behind it. -/
def leftB (v : Int) (r : List (Int × Int)) (tail : List UInt8) : List UInt8 := bodyB v r ++ 0 :: tail
theorem leftB_cons (v : Int) (p : Int × Int) (r : List (Int × Int)) (tail : List UInt8) : leftB v (p :: r) tail = Lib.uvarint (Lib.zigzag (wrap32 (p.1 - v))) ++ (Lib.uvarint p.2.toNat ++ leftB p.1 r tail) := by
  simp [leftB, bodyB, encB]
theorem leftB_ne (v : Int) (r : List (Int × Int)) (tail : List UInt8) : leftB v r tail ≠ [] := by simp [leftB]

/-- A PCIter at piece k. -/
def ItAt (w : World) (g b B : Nat) (s : Int) (ps : List (Int × Int)) (tail : List UInt8) (k : Nat) (x pc nx : Int) : Prop :=
  ∃ o n c, It w g (some ⟨b, o, none⟩) n c pc nx s x false false ∧ Sl w B (some ⟨b, o, none⟩) n c (leftB x (ps.drop (k + 1)) tail)
def ItDone (w : World) (g : Nat) (s : Int) : Prop := ∃ A n c pc nx val, It w g A n c pc nx s val false true
/-- Where a PCIter is behind k steps. -/
def ItK (w : World) (g b B : Nat) (s : Int) (ps : List (Int × Int)) (tail : List UInt8) (k : Nat) : Prop :=
  (∃ hk : k < ps.length, ItAt w g b B s ps tail k (ps[k]).1 (sumL (ps.take k) * s) (sumL (ps.take (k + 1)) * s)) ∨ (k = ps.length ∧ ItDone w g s)

def StepPostI (w : World) (g b B : Nat) (s : Int) (ps : List (Int × Int)) (tail : List UInt8) (k : Nat) (e : Ending) (w' : World) : Prop :=
  e = .returned (.tuple #[]) ∧ ItK w' g b B s ps tail k ∧ KeptG w w' g

theorem next_k (g b B : Nat) (s : Int) (ps : List (Int × Int)) (tail : List UInt8) (k : Nat) (w : World) (hk : k < ps.length) (hr : RightP ps s) (hok : ∀ p ∈ ps, PieceOk p) (hbg : b ≠ g) (h : ItAt w g b B s ps tail k (ps[k]).1 (sumL (ps.take k) * s) (sumL (ps.take (k + 1)) * s)) :
    Calls Try.prog 30 #[.pointer (some ⟨g, 0, none⟩)] w (StepPostI w g b B s ps tail (k + 1)) := by
  obtain ⟨o, n, c, hI, hs⟩ := h
  by_cases hk2 : k + 1 < ps.length
  · have hd : ps.drop (k + 1) = ps[k + 1] :: ps.drop (k + 1 + 1) := List.drop_eq_getElem_cons hk2
    have hv : (ps[k]).1 = lastV (-1) (ps.take (k + 1)) := by rw [List.take_succ_eq_append_getElem hk, lastV_snoc]
    obtain ⟨m, st⟩ := SInv.step (s := s) (ps := ps) (k := k + 1) ⟨(hok _ (List.getElem_mem hk)).1, hv, rfl⟩ hr hok hk2
    rw [hd, leftB_cons] at hs
    obtain ⟨y0, y1⟩ := st.y32
    have hw := wrap32_in ((ps[k + 1]).1 - (ps[k]).1)
    refine (next_any g n c b o B _ _ s _ _ _ m false _ w hI hs hbg (leftB_ne _ _ _) hw.1 hw.2 y0 y1 (.inl (st.ne.resolve_right (by omega))) st.hm st.p0 st.le).mono ?_
    rintro e w' ⟨rfl, o', n', c', hI', hs', hk'⟩
    rw [st.back] at hI'
    refine ⟨rfl, .inl ⟨hk2, o', n', c', ?_, hs'⟩, hk'⟩
    rw [st.next.hp] at hI'
    exact hI'
  · have hd : ps.drop (k + 1) = [] := List.drop_eq_nil_of_le (by omega)
    rw [hd] at hs
    have hs' : Sl w B (some ⟨b, o, none⟩) n c (0 :: tail) := hs
    refine (next_end g n c b o B _ _ s _ tail w (Lib.hid hI) (Lib.hid hs') hbg (by rw [← hs'.len]; simp) hs'.cap hs'.mx).mono ?_
    rintro e w' ⟨rfl, A', n', c', hI', hk'⟩
    exact ⟨rfl, .inr ⟨by omega, A', n', c', _, _, _, hI'⟩, hk'⟩

theorem init_k (g b o n c B : Nat) (s : Int) (ps : List (Int × Int)) (tail : List UInt8) (A0 : Option Addr) (n0 c0 : Nat) (pc0 nx0 v0 : Int) (st0 dn0 : Bool) (w : World) (hr : RightP ps s) (hok : ∀ p ∈ ps, PieceOk p) (hbg : b ≠ g) (hI : It w g A0 n0 c0 pc0 nx0 s v0 st0 dn0) (hs : Sl w B (some ⟨b, o, none⟩) n c (leftB (-1) ps tail)) :
    Calls Try.prog 29 #[.pointer (some ⟨g, 0, none⟩), .slice (some ⟨b, o, none⟩) n c] w (StepPostI w g b B s ps tail 0) := by
  have hl : 0 < ps.length := by have := hr.scale.2.2; cases ps with | nil => exact absurd rfl this | cons p r => simp
  obtain ⟨m, st⟩ := SInv.step (SInv.zero s ps) hr hok hl
  have hd : ps = ps[0] :: ps.drop 1 := by have := List.drop_eq_getElem_cons hl; simpa using this
  have hs1 := ((((((hs.set_ne (p := ⟨g, 0, none⟩) hbg (.slice (some ⟨b, o, none⟩) n c)).set_ne (p := ⟨g, 1, none⟩) hbg (.int .u32 0)).set_ne (p := ⟨g, 2, none⟩) hbg (.int .u32 0)).set_ne (p := ⟨g, 4, none⟩) hbg (.int .i32 (-1))).set_ne (p := ⟨g, 5, none⟩) hbg (.bool true)).set_ne (p := ⟨g, 6, none⟩) hbg (.bool false))
  have hI1 := (((((hI.s0 (some ⟨b, o, none⟩) n c).s1 0).s2 0).s4 (-1)).s5 true).s6 false
  have hk1 := (((((KeptG.set (w := w) g 0 (.slice (some ⟨b, o, none⟩) n c)).trans (KeptG.set g 1 (.int .u32 0))).trans (KeptG.set g 2 (.int .u32 0))).trans (KeptG.set g 4 (.int .i32 (-1)))).trans (KeptG.set g 5 (.bool true))).trans (KeptG.set g 6 (.bool false))
  have hs2 := hs1
  rw [hd, leftB_cons] at hs2
  obtain ⟨y0, y1⟩ := st.y32
  have hw := wrap32_in ((ps[0]).1 - (-1))
  have H := next_any g n c b o B _ _ s _ _ _ m true _ _ hI1 hs2 hbg (leftB_ne _ _ _) hw.1 hw.2 y0 y1 (.inr rfl) st.hm (by omega) (by have := st.le; omega)
  have HH := Lib.hid (H.mono (R' := StepPostI w g b B s ps tail 0) (by
    rintro e w' ⟨rfl, o', n', c', hI', hs', hk'⟩
    rw [st.back] at hI'
    refine ⟨rfl, .inl ⟨hl, o', n', c', ?_, hs'⟩, hk1.trans hk'⟩
    have e1 := st.next.hp
    rw [e1] at hI'
    simpa [sumL] using hI'))
  have g0 := hI.c0
  have g1 := hI.c1
  have g2 := hI.c2
  have g4 := hI.c4
  have g5 := hI.c5
  have g6 := hI.c6
  have f0 := hI.fr 0
  have f1 := hI.fr 1
  have f2 := hI.fr 2
  have f4 := hI.fr 4
  have f5 := hI.fr 5
  have f6 := hI.fr 6
  clear H hs1 hI1 hk1 hs2 hs hI hd st hw y0 y1 hr hok
  go_enter Try.func29, Try.ntmps29
  go_wp2_with fail
  refine HH.out.mono ?_
  rintro e w' ⟨rfl, h1, h2⟩
  have H1 := Lib.hid h1
  have H2 := Lib.hid h2
  clear h1 h2
  go_wp2
  go_end0
  exact ⟨rfl, H1.out, H2.out⟩
end Go.Proofs.Ytmadidaiaggheaa
