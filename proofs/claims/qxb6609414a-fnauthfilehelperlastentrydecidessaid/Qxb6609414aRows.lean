/-
  No cell of these rows narrows 'for every input' (looked for: loops, veiled, ifaces, maps, wideKeys, modest, calm, conditions, laid).
  DERIVED. THE GIVEN ROWS OF THIS SEAT. 2 by the template 'for every input the law returns true; each argument reads behind the call as it read before'; 0 by the template 'total and deterministic' (their statements: Qxb6609414aTotals.lean).
  GIVEN WITH THE SEED: the statements are not yours to turn. If you find one false, say at which input.
  Laid BY PROGRAM, IN A SANDBOX (cutbox-rows.mjs): the forced cells as the released guide's own fill.sh prints them over the translation 4edd853c0fdae7c5… (all of the seat's roots in one cut). By AI agents, Wed Nov 11 2026. No macro, syntax, notation, axiom, sorry.
-/
import Derived.Test.Qxb6609414aChecked
import GoSem.Claim
import GoSem.ClaimJoined
import GoSem.ClaimMapViews
import Derived.JoinedTies
import Derived.KernelRfl
namespace Go.Proofs.Qxb6609414a
/- THE CELL 'sum', in the pinned program and in every row, IS THE sha256 OF THE DUMP (.gsa) THAT Qxb6609414aProg.lean LOADS. Nothing in Lean hashes anything: it is a label: what it is worth is what the hold of that sum in a sandbox is worth. -/
noncomputable def Try.pinned : Pinned := { name := "qxb6609414a", sum := "4edd853c0fdae7c5695483a14c90d546580b14ff79c11d03a396c1a406be3f08", checked := Try.checked }
namespace Rows
def none {H : Type} : Left H := { results := [], args := [] }

/-- 'zzlaws_pkg_registry_b1.FnAuthFileHelperMatchesFileOrderModel': WHATEVER THE INPUT: true; the input reads as it did. -/
def fnAuthFileHelperMatchesFileOrderModelSpec : ChangeSpec := { name := "fnAuthFileHelperMatchesFileOrderModel", fn := fun _ => fun
  | [d1, d2, d3] => { results := [.lit (.bool true)], args := [d1, d2, d3] }
  | _ => none }
def fnAuthFileHelperMatchesFileOrderModelRow : OpenClaim := { program := "qxb6609414a", sum := "4edd853c0fdae7c5695483a14c90d546580b14ff79c11d03a396c1a406be3f08", func := "example.com/refgraph/refgraph/zzlaws_pkg_registry_b1.FnAuthFileHelperMatchesFileOrderModel", spec := "fnAuthFileHelperMatchesFileOrderModel", apart := false }
def FnAuthFileHelperMatchesFileOrderModelSaid : Prop := fnAuthFileHelperMatchesFileOrderModelRow.holds Try.pinned (OpenSpec.ofChange fnAuthFileHelperMatchesFileOrderModelSpec)

/-- ITS FALSE NEIGHBOUR: 'it returns false'. Refute it at one input. -/
def fnAuthFileHelperMatchesFileOrderModelWrong : ChangeSpec := { name := "fnAuthFileHelperMatchesFileOrderModel", fn := fun _ => fun
  | [d1, d2, d3] => { results := [.lit (.bool false)], args := [d1, d2, d3] }
  | _ => none }
def FnAuthFileHelperMatchesFileOrderModelWrongFalsely : Prop := fnAuthFileHelperMatchesFileOrderModelRow.holds Try.pinned (OpenSpec.ofChange fnAuthFileHelperMatchesFileOrderModelWrong)

/-- 'zzlaws_pkg_registry_b1.FnAuthFileHelperLastEntryDecides': WHATEVER THE INPUT: true; the input reads as it did. -/
def fnAuthFileHelperLastEntryDecidesSpec : ChangeSpec := { name := "fnAuthFileHelperLastEntryDecides", fn := fun _ => fun
  | [d1, d2, d3, d4, d5] => { results := [.lit (.bool true)], args := [d1, d2, d3, d4, d5] }
  | _ => none }
def fnAuthFileHelperLastEntryDecidesRow : OpenClaim := { program := "qxb6609414a", sum := "4edd853c0fdae7c5695483a14c90d546580b14ff79c11d03a396c1a406be3f08", func := "example.com/refgraph/refgraph/zzlaws_pkg_registry_b1.FnAuthFileHelperLastEntryDecides", spec := "fnAuthFileHelperLastEntryDecides", apart := false }
def FnAuthFileHelperLastEntryDecidesSaid : Prop := fnAuthFileHelperLastEntryDecidesRow.holds Try.pinned (OpenSpec.ofChange fnAuthFileHelperLastEntryDecidesSpec)

/-- ITS FALSE NEIGHBOUR: 'it returns false'. Refute it at one input. -/
def fnAuthFileHelperLastEntryDecidesWrong : ChangeSpec := { name := "fnAuthFileHelperLastEntryDecides", fn := fun _ => fun
  | [d1, d2, d3, d4, d5] => { results := [.lit (.bool false)], args := [d1, d2, d3, d4, d5] }
  | _ => none }
def FnAuthFileHelperLastEntryDecidesWrongFalsely : Prop := fnAuthFileHelperLastEntryDecidesRow.holds Try.pinned (OpenSpec.ofChange fnAuthFileHelperLastEntryDecidesWrong)

end Rows
end Go.Proofs.Qxb6609414a
