/- The contracts of the reference's Uvarint and Zigzag, of slices.Clone at bytes, and of SameBytes. -/
import Derived.Test.YtmadidaiaggheaaMem
namespace Go.Proofs.Ytmadidaiaggheaa
open Go.RowKit
set_option linter.unusedVariables false

/-- A row of bytes of the call's own comes back; what was there is as it was. -/
def Gives8 (w : World) (l : List UInt8) (e : Ending) (w' : World) : Prop := ∃ v, e = .returned v ∧ Own8 w' w.heap.size v l ∧ Below w.heap.size w w'

theorem uv_len (y : Nat) (h : y < 4294967296) : (Lib.uvarint y).length ≤ 5 := Lib.uvarint_length 4 y (by omega)

theorem u8_of (b : Nat) (h : b < 256) : ((b : Nat) : Int) = ((b.toUInt8).toNat : Int) := by
  rw [Nat.toUInt8_eq, UInt8.toNat_ofNat']; omega

theorem uv_small (z : Int) (h0 : 0 ≤ z) (h : z < 128) : ∃ b : UInt8, z = (b.toNat : Int) ∧ Lib.uvarint z.toNat = [b] :=
  ⟨z.toNat.toUInt8, by rw [← u8_of _ (by omega)]; omega, Lib.uvarint_small (by omega)⟩
theorem uv_big (z : Int) (h0 : 0 ≤ z) (h : 128 ≤ z) : ∃ b : UInt8, z % 128 + 128 = (b.toNat : Int) ∧ Lib.uvarint z.toNat = [b] ++ Lib.uvarint (z / 128).toNat := by
  refine ⟨(z.toNat % 128 + 128).toUInt8, by rw [← u8_of _ (by omega)]; omega, ?_⟩
  rw [Lib.uvarint_big (by omega), show z.toNat / 128 = (z / 128).toNat by omega]; rfl

theorem uvarint_int (x : Int) (h0 : 0 ≤ x) (h1 : x < 4294967296) (w : World) :
    Calls Try.prog 25 #[.int .u32 x] w (Gives8 w (Lib.uvarint x.toNat)) := by
  go_enter Try.func25, Try.ntmps25
  go_wp2
  go_loopw [0, 3] (fun vn vo wr => ∃ (y : Int) (pre : List UInt8), vn = .int .u32 y ∧ 0 ≤ y ∧ y ≤ x ∧ Lib.uvarint x.toNat = pre ++ Lib.uvarint y.toNat ∧ Own8 wr w.heap.size vo pre ∧ Below w.heap.size w wr) (fun vn _ _ => (intOf vn).toNat)
  case atStart => exact ⟨x, [], rfl, h0, Int.le_refl _, rfl, Own8.nil _ _, Below.refl _ _⟩
  case round =>
    obtain ⟨y, pre, rfl, hy0, hy, he, hown, hb⟩ := hrel
    have hpl : pre.length ≤ 5 := by
      have h1 := congrArg List.length he
      rw [List.length_append] at h1
      have := uv_len x.toNat (by omega)
      omega
    have HE := Lib.hid he; clear he
    have hbs := hb.size
    by_cases hlt : 128 ≤ y
    · obtain ⟨b, e1, e2⟩ := uv_big y hy0 hlt
      have E1 := Lib.hid e1; have E2 := Lib.hid e2; clear e1 e2
      go_wp2_with (at_builtin; refine wpList_ap8 rfl _ _ rfl w.heap.size u3 pre rfl (hown.alloc _) _ _ _ _ [b] rfl (sl_new _ _ _ E1.out) (by simp; omega) (by simp; omega) ?_; intro v1 w1 hown1 hg1 _)
      have hb1 := (hb.alloc hbs _).grown hg1 (by simp; omega) (fun k hk => (hown.lt k hk).1)
      go_roundw
      case rel => exact ⟨y / 128, pre ++ [b], rfl, by omega, by omega, by rw [HE.out, E2.out, List.append_assoc], hown1, hb1⟩
      case measure => simp [intOf]; omega
    · obtain ⟨b, e1, e2⟩ := uv_small y hy0 (by omega)
      have E1 := Lib.hid e1; have E2 := Lib.hid e2; clear e1 e2
      go_wp2_with (at_builtin; refine wpList_ap8 rfl _ _ rfl w.heap.size u3 pre rfl (hown.alloc _) _ _ _ _ [b] rfl (sl_new _ _ _ E1.out) (by simp; omega) (by simp; omega) ?_; intro v1 w1 hown1 hg1 _)
      go_ret
      exact ⟨v1, rfl, by rw [HE.out, E2.out]; exact hown1, (hb.alloc hbs _).grown hg1 (by simp; omega) (fun k hk => (hown.lt k hk).1)⟩
theorem uvarint_any (z : Int) (x : Nat) (hz : z = x) (hx : x < 4294967296) (w : World) :
    Calls Try.prog 25 #[.int .u32 z] w (Gives8 w (Lib.uvarint x)) := by
  have := uvarint_int z (by omega) (by omega) w
  rwa [show z.toNat = x by omega] at this
end Go.Proofs.Ytmadidaiaggheaa
