/-
  DERIVED. GIVEN WITH THE SEED: THE CARDS: each row of Qxb6612200aFmtRows.lean that lists a variable, with what it lists TIED to the program's text (the seventh form; the later family's looks); each row that meets fmt, with fmt's text TOLD by the authors' own Lean function (tested against real Go, not proved from fmt's source: count such statements apart). THE CARD IS WHAT COUNTS. Prove the row's statement (the work); the ties are given (Qxb6612200aFmtTie.lean); close each card by the builder's one call (the guide's Derived/Test/ToyasCard.lean, 'card_holds'). Laid BY PROGRAM, IN A SANDBOX (cutbox-door.mjs). By AI agents, Wed Nov 11 2026. No macro, syntax, notation, axiom, sorry.
-/
import Derived.Test.Qxb6612200aFmtRows
import GoSem.ClaimSeven
namespace Go.Proofs.Qxb6612200aFmt
namespace Rows

/-- THE TOLD CARD OF 'zzlaws_pkg_tally_b1.FnValidateAcceptsExactly'. -/
def fnValidateAcceptsExactlyCard : Claim7 := { stood := { row := fnValidateAcceptsExactlyRow, standIns := [], harness := (true, "a1555ac2616b865647643851a6315cdde396c00d45108d8125f040ae03871337"), looks := false }, told := true, goes := false }
def FnValidateAcceptsExactlyToldSaid : Prop := Claim7.holds Tryf.pinned (.plain (OpenSpec.ofChange fnValidateAcceptsExactlySpec)) fnValidateAcceptsExactlyCard
/-- ITS FALSE NEIGHBOUR. Refute it at one input. -/
def FnValidateAcceptsExactlyToldWrongFalsely : Prop := Claim7.holds Tryf.pinned (.plain (OpenSpec.ofChange fnValidateAcceptsExactlyWrong)) fnValidateAcceptsExactlyCard

/-- THE TOLD CARD OF 'zzlaws_pkg_tally_b1.FnValidateRefusesDoubledIgnoresOrder'. -/
def fnValidateRefusesDoubledIgnoresOrderCard : Claim7 := { stood := { row := fnValidateRefusesDoubledIgnoresOrderRow, standIns := [], harness := (true, "a1555ac2616b865647643851a6315cdde396c00d45108d8125f040ae03871337"), looks := false }, told := true, goes := false }
def FnValidateRefusesDoubledIgnoresOrderToldSaid : Prop := Claim7.holds Tryf.pinned (.plain (OpenSpec.ofChange fnValidateRefusesDoubledIgnoresOrderSpec)) fnValidateRefusesDoubledIgnoresOrderCard
/-- ITS FALSE NEIGHBOUR. Refute it at one input. -/
def FnValidateRefusesDoubledIgnoresOrderToldWrongFalsely : Prop := Claim7.holds Tryf.pinned (.plain (OpenSpec.ofChange fnValidateRefusesDoubledIgnoresOrderWrong)) fnValidateRefusesDoubledIgnoresOrderCard
end Rows
end Go.Proofs.Qxb6612200aFmt
