/-
  No cell of these rows narrows 'for every input' (looked for: loops, veiled, ifaces, maps, wideKeys, modest, calm, conditions, laid).
  DERIVED. THE GIVEN ROWS OF THIS SEAT. 2 by the template 'for every input the law returns true; each argument reads behind the call as it read before'; 0 by the template 'total and deterministic' (their statements: Qxb6612200aFmtTotals.lean).
  GIVEN WITH THE SEED: the statements are not yours to turn. If you find one false, say at which input.
  Laid BY PROGRAM, IN A SANDBOX (cutbox-rows.mjs): the forced cells as the released guide's own fill.sh prints them over the translation 914421b6ab5794d1… (all of the seat's roots in one cut). By AI agents, Wed Nov 11 2026. No macro, syntax, notation, axiom, sorry.
-/
import Derived.Test.Qxb6612200aFmtChecked
import GoSem.Claim
import GoSem.ClaimJoined
import GoSem.ClaimMapViews
import Derived.JoinedTies
import Derived.KernelRfl
namespace Go.Proofs.Qxb6612200aFmt
/- THE CELL 'sum', in the pinned program and in every row, IS THE sha256 OF THE DUMP (.gsa) THAT Qxb6612200aFmtProg.lean LOADS. Nothing in Lean hashes anything: it is a label: what it is worth is what the hold of that sum in a sandbox is worth. -/
noncomputable def Tryf.pinned : Pinned := { name := "qxb6612200afmt", sum := "914421b6ab5794d1041e07aab79c10008c600676a8e80c440c9a7596898ad1a0", checked := Tryf.checked }
namespace Rows
def none {H : Type} : Left H := { results := [], args := [] }

/-- 'zzlaws_pkg_tally_b1.FnValidateAcceptsExactly': WHATEVER THE INPUT: true; the input reads as it did. -/
def fnValidateAcceptsExactlySpec : ChangeSpec := { name := "fnValidateAcceptsExactly", fn := fun _ => fun
  | [d1, d2, d3, d4] => { results := [.lit (.bool true)], args := [d1, d2, d3, d4] }
  | _ => none }
def fnValidateAcceptsExactlyRow : OpenClaim := { program := "qxb6612200afmt", sum := "914421b6ab5794d1041e07aab79c10008c600676a8e80c440c9a7596898ad1a0", func := "example.com/tallyhold/tallyhold/zzlaws_pkg_tally_b1.FnValidateAcceptsExactly", spec := "fnValidateAcceptsExactly", stops := ["fmt.errorf"], inPlace := ["fmt.errorf"], apart := false }
/-- NO THEOREM (fmt's text is open here; it may be false): for the released tool's asking of the row's closed facts alone. THE STATEMENT IS 'FnValidateAcceptsExactlyToldSaid' (Qxb6612200aFmtCards.lean). -/
def FnValidateAcceptsExactlyFormAsk : Prop := fnValidateAcceptsExactlyRow.holds Tryf.pinned (OpenSpec.ofChange fnValidateAcceptsExactlySpec)

/-- ITS FALSE NEIGHBOUR: 'it returns false'. Refute it at one input. -/
def fnValidateAcceptsExactlyWrong : ChangeSpec := { name := "fnValidateAcceptsExactly", fn := fun _ => fun
  | [d1, d2, d3, d4] => { results := [.lit (.bool false)], args := [d1, d2, d3, d4] }
  | _ => none }
def FnValidateAcceptsExactlyWrongFormAsk : Prop := fnValidateAcceptsExactlyRow.holds Tryf.pinned (OpenSpec.ofChange fnValidateAcceptsExactlyWrong)

/-- 'zzlaws_pkg_tally_b1.FnValidateRefusesDoubledIgnoresOrder': WHATEVER THE INPUT: true; the input reads as it did. -/
def fnValidateRefusesDoubledIgnoresOrderSpec : ChangeSpec := { name := "fnValidateRefusesDoubledIgnoresOrder", fn := fun _ => fun
  | [d1, d2, d3, d4] => { results := [.lit (.bool true)], args := [d1, d2, d3, d4] }
  | _ => none }
def fnValidateRefusesDoubledIgnoresOrderRow : OpenClaim := { program := "qxb6612200afmt", sum := "914421b6ab5794d1041e07aab79c10008c600676a8e80c440c9a7596898ad1a0", func := "example.com/tallyhold/tallyhold/zzlaws_pkg_tally_b1.FnValidateRefusesDoubledIgnoresOrder", spec := "fnValidateRefusesDoubledIgnoresOrder", stops := ["fmt.errorf"], inPlace := ["fmt.errorf"], apart := false }
/-- NO THEOREM (fmt's text is open here; it may be false): for the released tool's asking of the row's closed facts alone. THE STATEMENT IS 'FnValidateRefusesDoubledIgnoresOrderToldSaid' (Qxb6612200aFmtCards.lean). -/
def FnValidateRefusesDoubledIgnoresOrderFormAsk : Prop := fnValidateRefusesDoubledIgnoresOrderRow.holds Tryf.pinned (OpenSpec.ofChange fnValidateRefusesDoubledIgnoresOrderSpec)

/-- ITS FALSE NEIGHBOUR: 'it returns false'. Refute it at one input. -/
def fnValidateRefusesDoubledIgnoresOrderWrong : ChangeSpec := { name := "fnValidateRefusesDoubledIgnoresOrder", fn := fun _ => fun
  | [d1, d2, d3, d4] => { results := [.lit (.bool false)], args := [d1, d2, d3, d4] }
  | _ => none }
def FnValidateRefusesDoubledIgnoresOrderWrongFormAsk : Prop := fnValidateRefusesDoubledIgnoresOrderRow.holds Tryf.pinned (OpenSpec.ofChange fnValidateRefusesDoubledIgnoresOrderWrong)

end Rows
end Go.Proofs.Qxb6612200aFmt
