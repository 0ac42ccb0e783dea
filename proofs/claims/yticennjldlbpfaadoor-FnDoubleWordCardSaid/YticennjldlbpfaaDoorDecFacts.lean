/- What decodeMask64 tells of masks that do not go round: the finite part, and the anchor. -/
import Derived.Test.YticennjldlbpfaaDoorDec64
namespace Go.Proofs.YticennjldlbpfaaDoor
open Go.RowKit
set_option linter.unusedVariables false

theorem chkDec : Pl.allPair 64 (fun f l => decide (l < f) || ((Pl.mask 64 f l &&& Pl.up 64 (Pl.mask 64 f l) == 0) && decide (0 < Pl.mask 64 f l) && decide (64 - Lib.bitLen (Pl.mask 64 f l) = f) && decide (Lib.bitLen (Pl.mask 64 f l) ≤ 64) && decide (Lib.ctz 64 (Pl.mask 64 f l) < 64) && decide (63 - Lib.ctz 64 (Pl.mask 64 f l) = l))) = true := by decide +kernel
theorem dec_facts (f l : Nat) (hf : f < 64) (hl : l < 64) (h : f ≤ l) : Pl.runB 64 (Pl.mask 64 f l) = true ∧ 64 - (Lib.bitLen (Pl.mask 64 f l) : Int) = f ∧ decEnd (Lib.ctz 64 (Pl.mask 64 f l)) = l := by
  have hc := Pl.allPair_at chkDec hf hl
  simp only [Bool.and_eq_true, Bool.or_eq_true, decide_eq_true_eq] at hc
  rcases hc with hc | ⟨⟨⟨⟨⟨h1, h0⟩, h2⟩, h3⟩, h4⟩, h5⟩
  · omega
  · exact ⟨by rw [← Pl.and_up_iff 64 _ h0 (Pl.mask64_lt hf hl)]; exact h1, by omega, by rw [decEnd_lt _ h4, h5]⟩

theorem run_mask (u : Nat) (h : Pl.runB 64 u = true) : ∃ f l, f < 64 ∧ l < 64 ∧ f ≤ l ∧ u = Pl.mask 64 f l := by
  obtain ⟨n, b, g1, g2, rfl⟩ := (Pl.runB_iff 64 u).1 h
  have := Pl.allPair_at (W := 64 + 1) Pl.chkRing64 (a := n) (b := b) (by omega) (by omega)
  simp only [Bool.or_eq_true, Bool.and_eq_true, decide_eq_true_eq, beq_iff_eq] at this
  rcases this with (e | e) | ⟨e, _⟩
  · omega
  · omega
  · exact ⟨_, _, by omega, by omega, by omega, e.symm⟩

theorem decEnd_nat (b : Nat) (hb : b ≤ 64) : ∃ k : Nat, decEnd b = k ∧ k < 64 := by
  have := List.all_eq_true.1 chkEnd b (List.mem_range.2 (by omega))
  rw [beq_iff_eq] at this
  by_cases e : b = 64
  · rw [if_pos e] at this; exact ⟨63, by omega, by omega⟩
  · rw [if_neg e] at this; exact ⟨63 - b, by omega, by omega⟩

theorem i64_back (u : Nat) (hu : u < 18446744073709551616) : IntKind.u64.wrap (wrap64 (u : Int)) = u := by
  rw [IntKind.wrap_u64]; unfold wrap64; omega

theorem one64 : 64 - (Lib.bitLen 1 : Int) = (63 : Nat) ∧ decEnd (Lib.ctz 64 1) = (63 : Nat) ∧ Pl.runB 64 1 = true := by decide +kernel
theorem idec64_one (w : World) (hT : Hid (Tab64 w)) :
    Calls Tryd.prog 13 #[.int .i64 1] w fun e w' => e = .returned (.tuple #[.int .u32 63, .int .u32 63, .bool true]) ∧ w = w' :=
  idec64_any 1 1 63 63 true (Lib.hid (by decide)) (Lib.hid (by decide)) (Lib.hid one64.1) (Lib.hid one64.2.1) (Lib.hid one64.2.2) w hT
end Go.Proofs.YticennjldlbpfaaDoor
