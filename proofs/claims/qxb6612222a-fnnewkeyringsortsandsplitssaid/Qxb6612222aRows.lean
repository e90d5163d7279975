/-
  No cell of these rows narrows 'for every input' (looked for: loops, veiled, ifaces, maps, wideKeys, modest, calm, conditions, laid).
  DERIVED. THE GIVEN ROWS OF THIS SEAT. 1 by the template 'for every input the law returns true; each argument reads behind the call as it read before'; 0 by the template 'total and deterministic' (their statements: Qxb6612222aTotals.lean).
  GIVEN WITH THE SEED: the statements are not yours to turn. If you find one false, say at which input.
  Laid BY PROGRAM, IN A SANDBOX (cutbox-rows.mjs): the forced cells as the released guide's own fill.sh prints them over the translation c3b96b7e3a1644b0… (all of the seat's roots in one cut). By AI agents, Wed Nov 11 2026. No macro, syntax, notation, axiom, sorry.
-/
import Derived.Test.Qxb6612222aChecked
import GoSem.Claim
import GoSem.ClaimJoined
import GoSem.ClaimMapViews
import Derived.JoinedTies
import Derived.KernelRfl
namespace Go.Proofs.Qxb6612222a
/- THE CELL 'sum', in the pinned program and in every row, IS THE sha256 OF THE DUMP (.gsa) THAT Qxb6612222aProg.lean LOADS. Nothing in Lean hashes anything: it is a label: what it is worth is what the hold of that sum in a sandbox is worth. -/
noncomputable def Try.pinned : Pinned := { name := "qxb6612222a", sum := "c3b96b7e3a1644b04f3957154686b3c99644b0b1297c77ab15228290a30514c9", checked := Try.checked }
namespace Rows
def none {H : Type} : Left H := { results := [], args := [] }

/-- 'zzlaws_internal_token_b1.FnNewKeyringSortsAndSplits': WHATEVER THE INPUT: true; the input reads as it did. -/
def fnNewKeyringSortsAndSplitsSpec : ChangeSpec := { name := "fnNewKeyringSortsAndSplits", fn := fun _ => fun
  | [d1, d2] => { results := [.lit (.bool true)], args := [d1, d2] }
  | _ => none }
def fnNewKeyringSortsAndSplitsRow : OpenClaim := { program := "qxb6612222a", sum := "c3b96b7e3a1644b04f3957154686b3c99644b0b1297c77ab15228290a30514c9", func := "example.com/principal/principal/zzlaws_internal_token_b1.FnNewKeyringSortsAndSplits", spec := "fnNewKeyringSortsAndSplits", unfollowed := true, recurses := true, apart := false }
def FnNewKeyringSortsAndSplitsSaid : Prop := fnNewKeyringSortsAndSplitsRow.holds Try.pinned (OpenSpec.ofChange fnNewKeyringSortsAndSplitsSpec)

/-- ITS FALSE NEIGHBOUR: 'it returns false'. Refute it at one input. -/
def fnNewKeyringSortsAndSplitsWrong : ChangeSpec := { name := "fnNewKeyringSortsAndSplits", fn := fun _ => fun
  | [d1, d2] => { results := [.lit (.bool false)], args := [d1, d2] }
  | _ => none }
def FnNewKeyringSortsAndSplitsWrongFalsely : Prop := fnNewKeyringSortsAndSplitsRow.holds Try.pinned (OpenSpec.ofChange fnNewKeyringSortsAndSplitsWrong)

end Rows
end Go.Proofs.Qxb6612222a
