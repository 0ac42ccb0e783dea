/- The contracts of pcvalue and of the thin function ValueAt. -/
import Derived.Test.YtmadidaiaggheaaStep
import Derived.Test.YtmadidaiaggheaaPl
namespace Go.Proofs.Ytmadidaiaggheaa
open Go.RowKit
set_option linter.unusedVariables false

/-- How long the slice in a box is. -/
def boxLen (w : World) (b : Nat) : Nat := match w.cell? ⟨b, 0, none⟩ with | some v => slen v | none => 0
theorem boxLen_of {w : World} {b n c : Nat} {t : TypeId} {A : Option Addr} (h : Box w b t (.slice A n c)) : boxLen w b = n := by unfold boxLen; rw [h.cell]; rfl

/-- What is left of the table at the head of a round: behind 'done' places the pieces r follow the value v. -/
structure VInv (s t : Int) (ps r : List (Int × Int)) (v done : Int) : Prop where
  alt : (r = ps ∧ v = -1 ∧ done = 0) ∨ (Alt v r ∧ 1 ≤ done)
  iv : inI32 v
  d0 : 0 ≤ done
  d1 : done ≤ t
  sum : done + sumL r * s = sumL ps * s
  ok : ∀ p ∈ r, PieceOk p
  val : valAt s t ps = valAt s (t - done) r

theorem VInv.start {s t : Int} {ps : List (Int × Int)} (h : RightP ps s) (hok : ∀ p ∈ ps, PieceOk p) (ht : 0 ≤ t) : VInv s t ps ps (-1) 0 :=
  ⟨.inl ⟨rfl, rfl, rfl⟩, by unfold inI32; omega, by omega, ht, by omega, hok, by rw [Int.sub_zero]⟩

/-- One step of the table. -/
structure VStep (s t : Int) (ps r : List (Int × Int)) (v done x y m : Int) : Prop where
  x32 : inI32 x
  y32 : inU32 y
  hm : y * s % 4294967296 = m
  m0 : 1 ≤ m
  m1 : m < 4294967296
  back : wrap32 (v + wrap32 (x - v)) = x
  ne : wrap32 (x - v) ≠ 0 ∨ done = 0
  hit : t - done < m → valAt s t ps = x
  next : m ≤ t - done → VInv s t ps r x (done + m)

theorem VInv.step {s t : Int} {ps r : List (Int × Int)} {v done x y : Int} (h : VInv s t ps ((x, y) :: r) v done) (hr : RightP ps s) : ∃ m, VStep s t ps r v done x y m ∧ done + m ≤ 4294967295 := by
  obtain ⟨hx, hy⟩ := h.ok (x, y) (List.mem_cons.2 (.inl rfl))
  simp only at hx hy
  have hs : 1 ≤ s ∧ sumL ps * s < 4294967296 := by
    cases ps with
    | nil => exact absurd hr id
    | cons p q => exact ⟨hr.2.2.1, hr.2.2.2⟩
  have hrn : 0 ≤ sumL r := sumL_nonneg r (fun p hp => h.ok p (List.mem_cons.2 (.inr hp)))
  have hrs : 0 ≤ sumL r * s := Int.mul_nonneg hrn (by omega)
  have hsum := h.sum
  simp only [sumL, Int.add_mul] at hsum
  have hy1 : 1 ≤ y := by
    rcases h.alt with ⟨e, _⟩ | ⟨ha, _⟩
    · cases ps with
      | nil => cases e
      | cons p q => injection e with e1 e2; subst e1; exact hr.1
    · exact ha.2.1
  have hys : 1 * 1 ≤ y * s := Int.mul_le_mul hy1 hs.1 (by omega) (by omega)
  have hd0 := h.d0
  have hlt : done + y * s ≤ 4294967295 := by omega
  have halt : Alt x r := by
    rcases h.alt with ⟨e, _⟩ | ⟨ha, _⟩
    · cases ps with
      | nil => cases e
      | cons p q => injection e with e1 e2; subst e1 e2; exact hr.2.1
    · exact ha.2.2
  refine ⟨y * s, ⟨hx, hy, by omega, by omega, by omega, wrap32_back hx, ?_, ?_, ?_⟩, hlt⟩
  · rcases h.alt with ⟨_, _, e⟩ | ⟨ha, _⟩
    · exact .inr e
    · exact .inl (wrap32_ne h.iv hx ha.1)
  · intro hh
    rw [h.val, valAt, if_pos hh]
  · intro hh
    refine ⟨.inr ⟨halt, by omega⟩, hx, by omega, by omega, by omega, fun p hp => h.ok p (List.mem_cons.2 (.inr hp)), ?_⟩
    rw [h.val, valAt, if_neg (by show ¬ t - done < y * s; omega), Int.sub_sub]

def VPost (w : World) (x : Int) (e : Ending) (w' : World) : Prop := e = .returned (.int .i32 x) ∧ Below w.heap.size w w'
def VRel (w : World) (s t entry : Int) (ps : List (Int × Int)) (wr : World) : Prop :=
  ∃ (r : List (Int × Int)) (v done pc : Int) (A : Option Addr) (n c : Nat), VInv s t ps r v done ∧ pc = entry + done ∧ Box wr w.heap.size 24 (.slice A n c) ∧ Box wr (w.heap.size + 1) 21 (.int .i32 v) ∧ Box wr (w.heap.size + 1 + 1) 41 (.int .u64 pc) ∧
    Sl wr w.heap.size A n c (tableB v r) ∧ Below w.heap.size w wr ∧ wr.heap.size = w.heap.size + 3

theorem pcvalue_any (tb n c : Nat) (A : Option Addr) (s t entry tg : Int) (ps : List (Int × Int)) (w : World) (htb : tb < w.heap.size) (hq : w.cell? ⟨tb, 0, none⟩ = some (.int .u32 s)) (hp : w.cell? ⟨tb, 1, none⟩ = some (.slice A n c)) (hs : Hid (Sl w w.heap.size A n c (tableB (-1) ps))) (hc0 : 1 ≤ c) (hc1 : c ≤ 9223372036854775807) (hn : n ≤ c)
    (HR : Hid (RightP ps s)) (HOk : Hid (∀ p ∈ ps, PieceOk p)) (s0 : 0 ≤ s) (s1 : s < 4294967296) (e0 : 0 ≤ entry) (e1 : entry < 4611686018427387904) (t0 : 0 ≤ t) (t1 : t < 4611686018427387904) (HT : Hid (tg = entry + t)) :
    Calls Try.prog 33 #[.pointer (some ⟨tb, 0, none⟩), .int .u32 0, .int .u64 entry, .int .u64 tg] w (VPost w (valAt s t ps)) := by
  obtain ⟨b, o, rfl, hbl, _⟩ := hs.out.at_ (k := 0) (by have := hs.out.len; simp [tableB] at this; omega)
  have hc : ¬ c = 0 := by omega
  go_enter Try.func33, Try.ntmps33
  go_wp2
  go_loopw [] (fun wr => VRel w s t entry ps wr) (fun wr => boxLen wr w.heap.size)
  case atStart =>
    refine ⟨ps, -1, 0, entry, _, _, _, VInv.start HR.out HOk.out t0, by omega, ((Box.new w _ _).alloc _).alloc _, (Box.new_at _ _ _ _ (by simp)).alloc _, Box.new_at _ _ _ _ (by simp), ?_, ?_, by simp⟩
    · exact ((hs.out.alloc (Nat.le_refl _) _).alloc (by simp) _).alloc (by simp; omega) _
    · exact (((Below.refl _ _).alloc (Nat.le_refl _) _).alloc (by simp) _).alloc (by simp; omega) _
  case round =>
    obtain ⟨r, v, done, pc, A, n, c, hi, hpc, hb1, hb2, hb3, hsl, hb, hsz⟩ := hrel
    have hq' : wr.cell? ⟨tb, 0, none⟩ = some (.int .u32 s) := by rw [hb.cell (p := ⟨tb, 0, none⟩) htb]; exact hq
    have hg3 := hb3.cell
    have HB := Lib.hid hb
    have HSZ := Lib.hid hsz
    have HPC := Lib.hid hpc
    have hd0 := hi.d0
    have hd1 := hi.d1
    have hiv := hi.iv
    have hmeas := boxLen_of hb1
    have HME := Lib.hid hmeas
    have hp0 : 0 ≤ pc := by omega
    have hp1 : pc < 9223372036854775808 := by omega
    clear hp hq
    cases r with
    | nil =>
      have hdone : 1 ≤ done := by
        rcases hi.alt with ⟨e, _⟩ | ⟨_, h⟩
        · exfalso
          have := HR.out
          rw [← e] at this
          exact this
        · exact h
      have hval : valAt s t ps = -1 := by rw [hi.val]; rfl
      have ef : (pc == entry) = false := by simp only [beq_eq_false_iff_ne, ne_eq]; omega
      have HVl := Lib.hid hval
      have H := Lib.hid (step_end (.pointer (some ⟨tb, 0, none⟩)) (.pointer (some ⟨w.heap.size + 1, 0, none⟩)) (.pointer (some ⟨w.heap.size + 1 + 1, 0, none⟩)) w.heap.size n c w.heap.size A [] wr (Lib.hid hb1) (Lib.hid hsl))
      clear hi hpc hb1 hb2 hb3 hsl hb hsz hval hmeas
      go_wp2_with fail
      refine H.out.mono ?_
      rintro e w2 ⟨rfl, A2, n2, c2, rfl, hs2⟩
      clear hs2
      go_wp2
      go_ret
      exact ⟨by rw [HVl.out]; rfl, HB.out.setCell (Nat.le_refl _) _⟩
    | cons p r' =>
      obtain ⟨x, y⟩ := p
      obtain ⟨m, hst, hle⟩ := hi.step HR.out
      have hm0 := hst.m0
      have hm1 := hst.m1
      have hx := hst.x32
      have hy := hst.y32
      obtain ⟨y0, y1⟩ := hy
      obtain ⟨fb, hfb⟩ : ∃ fb : Bool, (pc == entry) = fb := ⟨_, rfl⟩
      have hne : wrap32 (x - v) ≠ 0 ∨ fb = true := by
        rcases hst.ne with h | h
        · exact .inl h
        · right
          rw [← hfb]
          simp only [beq_iff_eq]; omega
      rw [tableB_cons] at hsl
      have hw := wrap32_in (x - v)
      have H := Lib.hid (step_any tb w.heap.size (w.heap.size + 1 + 1) (w.heap.size + 1) n c w.heap.size s pc v (wrap32 (x - v)) y m fb A (tableB x r') wr hq' hb1 hb3 hb2 hsl (by omega) (by omega) (by omega) (by omega) (Nat.le_refl _) (by omega) (by omega) hw.1 hw.2 y0 y1 hne hst.hm hp0 (by omega))
      have HST := Lib.hid hst
      have hn2 : 1 ≤ n := by have := hsl.len; have := Lib.uvarint_pos (Lib.zigzag (wrap32 (x - v))); simp at *; omega
      have HLen := Lib.hid hsl.len
      clear hi hpc hb1 hb2 hb3 hsl hb hsz hmeas hst hw hne hx
      by_cases hh : t - done < m
      · have ht : tg < pc + m := by have := HT.out; have := HPC.out; omega
        go_wp2_with fail
        refine H.out.mono ?_
        rintro e w2 ⟨rfl, A2, n2, c2, hb1, hb3, hb2, hs2, hk⟩
        have g1 := hb3.cell
        have g2 := hb2.cell
        have HB2 := Lib.hid (HB.out.trans (hk.below (Nat.le_refl _) (by omega) (by omega)))
        rw [HST.out.back] at g2
        clear hb1 hb2 hb3 hs2 hk
        go_wp2
        go_ret
        exact ⟨by rw [HST.out.hit hh]; rfl, HB2.out⟩
      · have ht : ¬ tg < pc + m := by have := HT.out; have := HPC.out; omega
        go_wp2_with fail
        refine H.out.mono ?_
        rintro e w2 ⟨rfl, A2, n2, c2, hb1, hb3, hb2, hs2, hk⟩
        have g1 := hb3.cell
        have g2 := hb2.cell
        have HB2 := Lib.hid (HB.out.trans (hk.below (Nat.le_refl _) (by omega) (by omega)))
        rw [HST.out.back] at hb2 g2
        have HX1 := Lib.hid hb1
        have HX2 := Lib.hid hb2
        have HX3 := Lib.hid hb3
        have HX4 := Lib.hid hs2
        have HX5 := Lib.hid (hk.size.trans HSZ.out)
        clear hb1 hb2 hb3 hs2 hk
        go_wp2
        go_roundw
        case rel => exact ⟨r', x, done + m, pc + m, A2, n2, c2, HST.out.next (by omega), by have := HPC.out; omega, HX1.out, HX2.out, HX3.out, HX4.out, HB2.out, HX5.out⟩
        case measure =>
          rw [HME.out, boxLen_of HX1.out]
          have h1 := HX4.out.len
          have h2 := HLen.out
          have h3 := Lib.uvarint_pos (Lib.zigzag (wrap32 (x - v)))
          simp only [List.length_append] at h2
          omega
end Go.Proofs.Ytmadidaiaggheaa
