/- The code of every mask: what bitconEncode gives, checked mask by mask. -/
import Derived.Test.YtnohdfdjhhmmdaaEncWalks
import Derived.Test.YtnohdfdjhhmmdaaSpecWalks
namespace Go.Proofs.Ytnohdfdjhhmmdaa
open Go.RowKit
set_option linter.unusedVariables false

def eS (p n b : Nat) : Nat := if p = 64 then Pl.made p n b else Pl.sext p (Pl.made p n b)
def eNeg (p n b : Nat) : Bool := decide (9223372036854775808 ≤ eS p n b)
def eZ (p n b : Nat) : Nat := if eNeg p n b then 18446744073709551615 - eS p n b else eS p n b
def eLow (p n b : Nat) : Nat := eZ p n b &&& (18446744073709551616 - eZ p n b)
def eT (p n b : Nat) : Nat := (eZ p n b + eLow p n b) % 18446744073709551616
def eA (p n b : Nat) : Nat := (eLow p n b).log2
def eB (p n b : Nat) : Nat := (eT p n b).log2
/-- The code as the remark tells it. -/
def fieldsN (p n b : Nat) : Nat := (if p = 64 then 4194304 else 0) + b * 65536 + ((n - 1) + (if p = 2 then 60 else if p = 4 then 56 else if p = 8 then 48 else if p = 16 then 32 else 0)) * 1024
def eCode (nb m1 : Int) (p n b : Nat) : Int :=
  if eNeg p n b then encZ nb p (p - 1 : Nat) m1 (2 * p - 1 : Nat) (eB p n b : Nat) ((p : Int) - ((eB p n b : Nat) - (eA p n b : Nat)))
  else encZ nb p (p - 1 : Nat) m1 (2 * p - 1 : Nat) (eA p n b : Nat) ((eB p n b : Nat) - (eA p n b : Nat))
def rotOk (p x : Nat) : Bool :=
  if p = 64 then x != Pl.rot 32 x
  else if p = 32 then x == Pl.rot 32 x && x != Pl.rot 16 x
  else if p = 16 then x == Pl.rot 32 x && x == Pl.rot 16 x && x != Pl.rot 8 x
  else if p = 8 then x == Pl.rot 32 x && x == Pl.rot 16 x && x == Pl.rot 8 x && x != Pl.rot 4 x
  else if p = 4 then x == Pl.rot 32 x && x == Pl.rot 16 x && x == Pl.rot 8 x && x == Pl.rot 4 x && x != Pl.rot 2 x
  else x == Pl.rot 32 x && x == Pl.rot 16 x && x == Pl.rot 8 x && x == Pl.rot 4 x && x == Pl.rot 2 x

theorem chkA : Pl.allMade (fun p n b => decide (eLow p n b ≠ 0) && decide (eT p n b ≠ 0) && decide (eA p n b < 64) && decide (eA p n b < eB p n b) && decide (eS p n b < 18446744073709551616) &&
    decide (eB p n b ≤ (if p = 64 then 63 else if eNeg p n b then p - 1 else p))) = true := by decide +kernel
theorem chkC : Pl.allMade (fun p n b => eCode (if p = 64 then 4194304 else 0) 63 p n b == (fieldsN p n b : Nat)) = true := by decide +kernel
theorem chkD : Pl.allMade (fun p n b => decide (p = 64) || eCode 0 31 p n b == (fieldsN p n b : Nat)) = true := by decide +kernel
theorem chkR : Pl.allMade (fun p n b => rotOk p (Pl.made p n b)) = true := by decide +kernel
theorem chkL : Pl.allMade (fun p n b => decide (p = 64) || (Pl.made p n b % 4294967296 ||| Pl.made p n b % 4294967296 * 4294967296) == Pl.made p n b) = true := by decide +kernel
end Go.Proofs.Ytnohdfdjhhmmdaa
