/- The walk of the law FnWrittenScaled. -/
import Derived.Test.YtmadidaiaggheaaWrite
import Derived.Test.YtmadidaiaggheaaIsCode
import Derived.Test.YtmadidaiaggheaaPiecesOf
import Derived.Test.YtmadidaiaggheaaLaw
import Derived.Test.YtmadidaiaggheaaWrittenLit
namespace Go.Proofs.Ytmadidaiaggheaa
open Go.RowKit
set_option linter.unusedVariables false

def WsRel (w : World) (n : Nat) (pcs : List Int) (m : Int) (vo vi : Value) (wr : World) : Prop := ∃ k : Nat, vi = .int .i64 k ∧ k ≤ n ∧ OwnN wr w.heap.size 2 .i64 vo ((pcs.take k).map (· * m)) ∧ Below w.heap.size w wr
theorem wf_i64 (z : Int) (h0 : -9223372036854775808 ≤ z) (h1 : z ≤ 9223372036854775807) : (Lit.int .i64 z).wf = true := by
  simp [Lit.wf, IntKind.min, IntKind.max, IntKind.signed, IntKind.bits]
  omega

set_option maxHeartbeats 2000000 in
theorem fnWrittenScaled_main (A A1 A2 : Option Addr) (n c n1 c1 n2 c2 : Nat) (pcs before behind : List Int) (size m : Int) (w : World) (hs : Hid (SlN w w.heap.size .i64 A n c pcs)) (h1 : Hid (SlN w w.heap.size .i32 A1 n1 c1 before)) (h2 : Hid (SlN w w.heap.size .i32 A2 n2 c2 behind)) (hn : n ≤ 2147483647) (hn1 : n1 ≤ 2147483647) (hn2 : n2 ≤ 2147483647) (s0 : -9223372036854775808 ≤ size) (s1 : size ≤ 9223372036854775807) :
    Calls Try.prog 8 #[.slice A n c, .int .i64 size, .slice A1 n1 c1, .slice A2 n2 c2, .int .i64 m] w (Lawful w) := by
  go_enter Try.func8, Try.ntmps8
  go_wp2_with fail
  refine (isCode_any A A1 A2 n c n1 c1 n2 c2 pcs before behind size 1 w hs h1 h2 s0 s1).mono ?_
  rintro e w1 ⟨r, rfl, hr, hb1⟩
  have HB1 := Lib.hid hb1
  cases r
  · clear hr hb1
    go_wp2
    go_ret
    exact ⟨rfl, HB1.out⟩
  have HC := Lib.hid (hr rfl).1
  obtain rfl : n1 = n := by have a := HC.out.nb; have b := hs.out.len; have d := h1.out.len; omega
  obtain rfl : n2 = n1 := by have a := (hr rfl).2; have b := hs.out.len; have d := h2.out.len; omega
  have hz1 := hb1.size
  clear hr hb1
  by_cases hm1 : 1 ≤ m
  case neg =>
    have e : decide (m < 1) = true := by simp; omega
    clear hm1
    go_wp2
    go_ret
    exact ⟨rfl, HB1.out⟩
  have f1 : decide (m < 1) = false := by simp; omega
  by_cases hm2 : m ≤ 16
  case neg =>
    have e : decide (16 < m) = true := by simp; omega
    clear hm2
    go_wp2
    go_ret
    exact ⟨rfl, HB1.out⟩
  have f2 : decide (16 < m) = false := by simp; omega
  by_cases hsz : size < 134217728
  case neg =>
    have e : decide (134217728 ≤ size) = true := by simp; omega
    clear hsz
    go_wp2
    go_ret
    exact ⟨rfl, HB1.out⟩
  have f3 : decide (134217728 ≤ size) = false := by simp; omega
  have HNp : Hid (pcs.length = n2) := Lib.hid hs.out.len
  have hn1 : 1 ≤ n2 := by have := HC.out.n1; have := HNp.out; omega
  obtain ⟨b, o, rfl, hbw, hcell⟩ := hs.out.at_ hn1
  have HP : Hid (∀ i, i < n2 → w1.cell? ⟨b, o + i, none⟩ = some (.int .i64 (pAt pcs size i))) := Lib.hid fun i hi => by
    rw [pAt_get (by have := HNp.out; omega)]
    exact (HB1.out.cell (p := ⟨b, o + i, none⟩) hbw).trans (hcell i _)
  have hb1' : b < w1.heap.size := by omega
  have HCf := Lib.hid (HC.out.far hm1 hm2 hsz)
  have HPf := Lib.hid (piecesOf_far pcs size before m hm1)
  have hss : 0 ≤ size := by have a := HC.out.last; have d := HC.out.nonneg (i := pcs.length - 1) (by omega); omega
  have hsm0 : 0 ≤ size * m := Int.mul_nonneg hss (by omega)
  have hsm1 : size * m ≤ size * 16 := Int.mul_le_mul_of_nonneg_left hm2 hss
  have hwsm : wrap64 (size * m) = size * m := by unfold wrap64; omega
  clear hcell
  go_wp2
  go_loopw [11, 48] (fun vo vi wr => WsRel w1 n2 pcs m vo vi wr) (fun _ vi _ => n2 - (intOf vi).toNat)
  case atStart => exact ⟨0, rfl, Nat.zero_le _, OwnN.nil _ _ _ _, Below.refl _ _⟩
  case round =>
    obtain ⟨k, rfl, hk, hown, hb⟩ := hrel
    have HO := Lib.hid hown
    have HB := Lib.hid hb
    have hbs := hb.size
    clear hown hb
    by_cases hlt : k < n2
    · have p1 := (HB.out.cell (p := ⟨b, o + k, none⟩) hb1').trans (HP.out k hlt)
      have htk : pcs.take (k + 1) = pcs.take k ++ [pAt pcs size k] := by rw [pAt_get (by have := HNp.out; omega)]; exact List.take_succ_eq_append_getElem _
      have hpk0 := HC.out.nonneg (i := k) (by rw [HNp.out]; omega)
      have hpk1 := HC.out.le_size (i := k) (by rw [HNp.out]; omega)
      obtain ⟨pk, hpk⟩ : ∃ pk, pAt pcs size k = pk := ⟨_, rfl⟩
      rw [hpk] at p1 htk hpk0 hpk1
      obtain ⟨q, hq⟩ : ∃ q, pk * m = q := ⟨_, rfl⟩
      have hq0 : 0 ≤ q := by rw [← hq]; exact Int.mul_nonneg hpk0 (by omega)
      have hq1 : q ≤ pk * 16 := by rw [← hq]; exact Int.mul_le_mul_of_nonneg_left hm2 hpk0
      have hwq : wrap64 (pk * m) = q := by rw [hq]; unfold wrap64; omega
      have HTk := Lib.hid htk
      have HQ := Lib.hid hq
      have HLk : Hid (((pcs.take k).map (· * m)).length + [q].length ≤ 4294967296) := Lib.hid (by have := List.length_take_le k pcs; simp; omega)
      have HWf := Lib.hid (wf_i64 q (by omega) (by omega))
      have HSq : Hid (SlN (wr.alloc (.cells #[.int .i64 q] 2)) (wr.heap.size + 1) .i64 (some ⟨wr.heap.size, 0, none⟩) 1 1 [q]) := Lib.hid (sln_row _ _ _ .i64 [q] 2 _ (heap_alloc_new wr _) rfl (by omega) (by intro z hz; simp at hz; subst hz; exact HWf.out) (by omega))
      clear htk hpk hq hpk0 hpk1 hq0 hq1 hsm0 hsm1 hss
      go_wp2_with (at_builtin; refine wpList_apN 26 2 .i64 8 Try.underlying26 info64 (by omega) rfl (.tmp 52) (.tmp 56) rfl w1.heap.size u11 ((pcs.take k).map (· * m)) rfl (HO.out.alloc _) (wr.heap.size + 1) (some ⟨wr.heap.size, 0, none⟩) 1 1 [q] rfl HSq.out HLk.out (by simp; omega) ?_; intro v3 w3 hown3 hg3 hat3; have HO3 := Lib.hid hown3; have HB3 := Lib.hid ((HB.out.alloc hbs _).grown hg3 (by simp; omega) (fun k hk => (HO.out.lt k hk).1)); clear hown3 hg3 hat3)
      go_roundw
      case rel =>
        refine ⟨k + 1, by go_num, by omega, ?_, HB3.out⟩
        rw [HTk.out, List.map_append, List.map_singleton, HQ.out]
        exact HO3.out
      case measure => simp [intOf]; omega
    · obtain rfl : k = n2 := by omega
      have HBw := Lib.hid (HB1.out.trans (HB.out.mono hz1))
      have h0 := HO.out
      rw [List.take_of_length_le (by have := HNp.out; omega)] at h0
      obtain ⟨Af, nf, cf, rfl, hsf⟩ := h0.sl (fun z hz => by
        simp only [List.mem_map] at hz
        obtain ⟨p, hp, rfl⟩ := hz
        obtain ⟨i, hi, rfl⟩ := List.getElem_of_mem hp
        have a := HC.out.nonneg (i := i) (by omega)
        have d := HC.out.le_size (i := i) (by omega)
        rw [pAt_get hi] at a d
        have e := Int.mul_nonneg a (show (0 : Int) ≤ m by omega)
        have f : pcs[i] * m ≤ pcs[i] * 16 := Int.mul_le_mul_of_nonneg_left hm2 a
        exact wf_i64 _ (by omega) (by omega))
      obtain rfl : nf = k := by rw [← hsf.len, List.length_map]; exact HNp.out
      have HSf := Lib.hid hsf
      clear h0 hsf
      go_wp2_with fail
      refine (write_any w.heap.size nf c c1 c2 _ A1 A2 pcs before behind size 1 wr (Lib.hid (hs.out.below HBw.out)) (Lib.hid (h1.out.below HBw.out)) (Lib.hid (h2.out.below HBw.out)) HBw.out.size HC hn).mono ?_
      rintro e w2 ⟨A3, n3, c3, rfl, hs3, hb2⟩
      have HS3 := Lib.hid hs3
      have HB2 := Lib.hid (HBw.out.trans (hb2.mono HBw.out.size))
      have HSf2 := Lib.hid ((HSf.out.below hb2).more hb2.size)
      have hn3 : 0 < n3 := by have a := hs3.len; simp [tableB] at a; omega
      have e3 : decide ((0 : Int) < (n3 : Int)) = true := by simp; omega
      clear hs3 hb2
      go_wp2_with fail
      refine (write_any w2.heap.size nf cf c1 c2 Af A1 A2 (pcs.map (· * m)) before behind (size * m) m w2 HSf2 (Lib.hid ((h1.out.below HB2.out).more HB2.out.size)) (Lib.hid ((h2.out.below HB2.out).more HB2.out.size)) (Nat.le_refl _) HCf hn).mono ?_
      rw [HPf.out]
      rintro e w4 ⟨A5, n5, c5, rfl, hs5, hb3⟩
      have HS5 := Lib.hid hs5
      have HS3x := Lib.hid (HS3.out.below hb3)
      have HB3 := Lib.hid (HB2.out.trans (hb3.mono HB2.out.size))
      clear hs5 hb3
      go_wp2_with fail
      refine (same8_any A3 A5 n3 n5 c3 c5 w2.heap.size w4.heap.size _ w4 HS3x.out HS5.out).mono ?_
      rintro e w5 ⟨rfl, rfl⟩
      go_wp2
      go_ret
      exact ⟨rfl, HB3.out⟩
theorem fnWrittenScaled_walk (A0 : Option Addr) (n0 c0 : Nat) (l0 : List Int) (a1 : Int) (w1 : (Lit.int .i64 a1).wf = true) (A2 : Option Addr) (n2 c2 : Nat) (l2 : List Int) (A3 : Option Addr) (n3 c3 : Nat) (l3 : List Int) (a4 : Int) (w4 : (Lit.int .i64 a4).wf = true) (w : World) (s0 : SlN w w.heap.size .i64 A0 n0 c0 l0) (s2 : SlN w w.heap.size .i32 A2 n2 c2 l2) (s3 : SlN w w.heap.size .i32 A3 n3 c3 l3) :
    Calls Try.prog 8 #[.slice A0 n0 c0, .int .i64 a1, .slice A2 n2 c2, .slice A3 n3 c3, .int .i64 a4] w (Lawful w) := by
  obtain ⟨b0, b1⟩ := bounds_i64 w1
  have m0 := Nat.le_trans s0.cap s0.mx
  have m2 := Nat.le_trans s2.cap s2.mx
  have m3 := Nat.le_trans s3.cap s3.mx
  have S0 := Lib.hid s0
  have S2 := Lib.hid s2
  have S3 := Lib.hid s3
  clear w1 w4 s0 s2 s3
  by_cases hn : n0 ≤ 2147483647
  case neg =>
    go_enter Try.func8, Try.ntmps8
    go_wp2_with fail
    go_ret
    exact ⟨rfl, Below.refl _ _⟩
  by_cases hn2 : n2 ≤ 2147483647
  case neg =>
    go_enter Try.func8, Try.ntmps8
    go_wp2_with fail
    go_ret
    exact ⟨rfl, Below.refl _ _⟩
  by_cases hn3 : n3 ≤ 2147483647
  case neg =>
    go_enter Try.func8, Try.ntmps8
    go_wp2_with fail
    go_ret
    exact ⟨rfl, Below.refl _ _⟩
  exact fnWrittenScaled_main A0 A2 A3 n0 c0 n2 c2 n3 c3 l0 l2 l3 a1 a4 w S0 S2 S3 hn hn2 hn3 b0 (by omega)
end Go.Proofs.Ytmadidaiaggheaa
