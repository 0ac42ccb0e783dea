/- The contracts of the closure of ZZTable and of LSym.Func. -/
import Derived.Test.YtmadidaiaggheaaIter
import Derived.Deep.RegionHeld3
namespace Go.Proofs.Ytmadidaiaggheaa
open Go.RowKit
set_option linter.unusedVariables false

def ValPost (w : World) (x : Int) (e : Ending) (w' : World) : Prop := e = .returned (.int .i32 x) ∧ ∃ k, w' = w.drewN k
theorem val_before (C S O AR H : Value) (g gb b o n c k : Nat) (x : Int) (w : World) (h1 : w.cell? ⟨gb, 0, none⟩ = some (.slice (some ⟨b, o, none⟩) n c)) (h2 : w.cell? ⟨g, 2, none⟩ = some (.int .i64 k)) (hk : k < n) (h3 : w.cell? ⟨b, o + k, none⟩ = some (.int .i32 x)) (hn : n ≤ 9223372036854775807) :
    Calls Try.prog 31 #[C, S, O, .pointer (some ⟨g, 0, none⟩), .int .i32 0, AR, .pointer (some ⟨gb, 0, none⟩), H] w (ValPost w x) := by
  have i0 : (0 : Int) ≤ (k : Int) := by omega
  have i1 : (k : Int) < (n : Int) := by omega
  go_enter Try.func31, Try.ntmps31
  go_wp2_with fail
  go_quiet (fail)
  go_wp2
  go_ret
  exact ⟨rfl, _, rfl⟩
theorem val_behind (C S O AR B : Value) (g gh b o n c k : Nat) (x : Int) (w : World) (h1 : w.cell? ⟨gh, 0, none⟩ = some (.slice (some ⟨b, o, none⟩) n c)) (h2 : w.cell? ⟨g, 2, none⟩ = some (.int .i64 k)) (hk : k < n) (h3 : w.cell? ⟨b, o + k, none⟩ = some (.int .i32 x)) (hn : n ≤ 9223372036854775807) :
    Calls Try.prog 31 #[C, S, O, .pointer (some ⟨g, 0, none⟩), .int .i32 1, AR, B, .pointer (some ⟨gh, 0, none⟩)] w (ValPost w x) := by
  have i0 : (0 : Int) ≤ (k : Int) := by omega
  have i1 : (k : Int) < (n : Int) := by omega
  go_enter Try.func31, Try.ntmps31
  go_wp2_with fail
  go_quiet (fail)
  go_wp2
  go_ret
  exact ⟨rfl, _, rfl⟩
theorem func_any (g : Nat) (v : Value) (w : World) (h : w.cell? ⟨g, 2, none⟩ = some v) :
    Calls Try.prog 36 #[.pointer (some ⟨g, 0, none⟩)] w (fun e w' => e = .returned v ∧ w = w') := by
  go_enter Try.func36, Try.ntmps36
  go_wp2
  go_ret
  exact ⟨rfl, rfl⟩
end Go.Proofs.Ytmadidaiaggheaa
