/- The contracts of ZZReadVarint and of the thin function Varint. -/
import Derived.Test.YtmnjcngjhpdmeaaRv
namespace Go.Proofs.Ytmnjcngjhpdmeaa
open Go.RowKit
set_option linter.unusedVariables false

def RvOut (w : World) (B x : Nat) (rest : List UInt8) (e : Ending) (w' : World) : Prop :=
  ∃ A n c, e = .returned (.tuple #[.int .u32 x, .slice A n c]) ∧ Sl w' B A n c rest ∧ Below w.heap.size w w'

theorem cell_new (w : World) (cs : Array Value) (t : TypeId) (i : Nat) : (w.alloc (.cells cs t)).cell? ⟨w.heap.size, i, none⟩ = cs[i]? := cell_of_row _ _ _ cs t (0, 0) (heap_alloc_new w _)

theorem zzrv_any (n c B x : Nat) (A : Option Addr) (rest : List UInt8) (w : World) (hx : Hid (x < 4294967296)) (hs : Sl w B A n c (Lib.uvarint x ++ rest)) (hB : B ≤ w.heap.size) :
    Calls Try.prog 22 #[.slice A n c] w (RvOut w B x rest) := by
  have HS := Lib.hid hs
  clear hs
  go_enter Try.func22, Try.ntmps22
  go_wp2_with fail
  refine (rv_any _ w.heap.size n c B x A rest _ hx.out (by simp [go_sem]) (by simp [go_sem]) ((HS.out.alloc hB _).alloc (by simp; omega) _)).mono ?_
  rintro e w' ⟨A', n', c', rfl, rfl, hs'⟩
  have HS' := Lib.hid hs'
  clear hs'
  go_wp2_with fail
  go_quiet (fail)
  go_wp2
  go_ret2
  exact ⟨A', n', c', rfl, ((((HS'.out.unalloc (by simp; omega)).unalloc hB).alloc hB _).alloc (by simp; omega) _).drewN _, below_drewN (((Below.refl _ _).alloc (Nat.le_refl _) _).alloc (by simp) _) _⟩

def ViOut (w : World) (x : Nat) (rest : List UInt8) (e : Ending) (w' : World) : Prop :=
  ∃ A n c, e = .returned (.tuple #[.int .u32 x, .slice A n c]) ∧ Sl w' w'.heap.size A n c rest ∧ Below w.heap.size w w'
theorem varint_any (n c B x : Nat) (A : Option Addr) (rest : List UInt8) (w : World) (hx : Hid (x < 4294967296)) (hs : Hid (Sl w B A n c (Lib.uvarint x ++ rest))) (hB : B ≤ w.heap.size) (hn : Hid (rest.length ≤ 35184372088832)) :
    Calls Try.prog 12 #[.slice A n c] w (ViOut w x rest) := by
  have HL := Lib.hid (show (Lib.uvarint x ++ rest).length ≤ 70368744177664 by have := uv_len x hx.out; have := hn.out; rw [List.length_append]; omega)
  go_enter Try.func12, Try.ntmps12
  go_wp2_with fail
  refine (clone8_any A n c B _ w hs.out hB HL.out).mono ?_
  rintro e w1 ⟨A1, n1, c1, rfl, hs1, hb1⟩
  have HS1 := Lib.hid hs1
  clear hs1
  go_wp2_with fail
  refine (zzrv_any n1 c1 w1.heap.size x A1 rest w1 hx HS1.out (Nat.le_refl _)).mono ?_
  rintro e w2 ⟨A2, n2, c2, rfl, hs2, hb2⟩
  have HS2 := Lib.hid hs2
  have hz := hb2.size
  clear hs2
  go_wp2_with fail
  refine (clone8_any A2 n2 c2 w1.heap.size rest w2 HS2.out hz (by have := hn.out; omega)).mono ?_
  rintro e w3 ⟨A3, n3, c3, rfl, hs3, hb3⟩
  have HS3 := Lib.hid hs3
  clear hs3
  go_wp2
  go_ret2
  exact ⟨A3, n3, c3, rfl, HS3.out, (hb1.trans (hb2.mono hb1.size)).trans (hb3.mono (Nat.le_trans hb1.size hz))⟩
end Go.Proofs.Ytmnjcngjhpdmeaa
