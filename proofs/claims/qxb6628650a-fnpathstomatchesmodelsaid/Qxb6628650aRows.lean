/-
  No cell of these rows narrows 'for every input' (looked for: loops, veiled, ifaces, maps, wideKeys, modest, calm, conditions, laid).
  DERIVED. THE GIVEN ROWS OF THIS SEAT. 2 by the template 'for every input the law returns true; each argument reads behind the call as it read before'; 0 by the template 'total and deterministic' (their statements: Qxb6628650aTotals.lean).
  GIVEN WITH THE SEED: the statements are not yours to turn. If you find one false, say at which input.
  Laid BY PROGRAM, IN A SANDBOX (cutbox-rows.mjs): the forced cells as the released guide's own fill.sh prints them over the translation ca27498510181b40… (all of the seat's roots in one cut). By AI agents, Wed Nov 11 2026. No macro, syntax, notation, axiom, sorry.
-/
import Derived.Test.Qxb6628650aChecked
import GoSem.Claim
import GoSem.ClaimJoined
import GoSem.ClaimMapViews
import Derived.JoinedTies
import Derived.KernelRfl
namespace Go.Proofs.Qxb6628650a
/- THE CELL 'sum', in the pinned program and in every row, IS THE sha256 OF THE DUMP (.gsa) THAT Qxb6628650aProg.lean LOADS. Nothing in Lean hashes anything: it is a label: what it is worth is what the hold of that sum in a sandbox is worth. -/
noncomputable def Try.pinned : Pinned := { name := "qxb6628650a", sum := "ca27498510181b405bb48d7141f5278c76bb5ad2eeba71ca9336e04733250ba4", checked := Try.checked }
namespace Rows
def none {H : Type} : Left H := { results := [], args := [] }

/-- 'zzlaws_topology_b1.FnPathsToMatchesModel': WHATEVER THE INPUT: true; the input reads as it did. -/
def fnPathsToMatchesModelSpec : ChangeSpec := { name := "fnPathsToMatchesModel", fn := fun _ => fun
  | [d1, d2, d3, d4, d5] => { results := [.lit (.bool true)], args := [d1, d2, d3, d4, d5] }
  | _ => none }
def fnPathsToMatchesModelRow : OpenClaim := { program := "qxb6628650a", sum := "ca27498510181b405bb48d7141f5278c76bb5ad2eeba71ca9336e04733250ba4", func := "example.com/nearweave/nearweave/zzlaws_topology_b1.FnPathsToMatchesModel", spec := "fnPathsToMatchesModel", inPlace := ["math.Float64frombits"], unfollowed := true, recurses := true, apart := false }
def FnPathsToMatchesModelSaid : Prop := fnPathsToMatchesModelRow.holds Try.pinned (OpenSpec.ofChange fnPathsToMatchesModelSpec)

/-- ITS FALSE NEIGHBOUR: 'it returns false'. Refute it at one input. -/
def fnPathsToMatchesModelWrong : ChangeSpec := { name := "fnPathsToMatchesModel", fn := fun _ => fun
  | [d1, d2, d3, d4, d5] => { results := [.lit (.bool false)], args := [d1, d2, d3, d4, d5] }
  | _ => none }
def FnPathsToMatchesModelWrongFalsely : Prop := fnPathsToMatchesModelRow.holds Try.pinned (OpenSpec.ofChange fnPathsToMatchesModelWrong)

/-- 'zzlaws_topology_b1.FnPathsToCertificate': WHATEVER THE INPUT: true; the input reads as it did. -/
def fnPathsToCertificateSpec : ChangeSpec := { name := "fnPathsToCertificate", fn := fun _ => fun
  | [d1, d2, d3, d4, d5] => { results := [.lit (.bool true)], args := [d1, d2, d3, d4, d5] }
  | _ => none }
def fnPathsToCertificateRow : OpenClaim := { program := "qxb6628650a", sum := "ca27498510181b405bb48d7141f5278c76bb5ad2eeba71ca9336e04733250ba4", func := "example.com/nearweave/nearweave/zzlaws_topology_b1.FnPathsToCertificate", spec := "fnPathsToCertificate", inPlace := ["math.Float64frombits"], unfollowed := true, recurses := true, apart := false }
def FnPathsToCertificateSaid : Prop := fnPathsToCertificateRow.holds Try.pinned (OpenSpec.ofChange fnPathsToCertificateSpec)

/-- ITS FALSE NEIGHBOUR: 'it returns false'. Refute it at one input. -/
def fnPathsToCertificateWrong : ChangeSpec := { name := "fnPathsToCertificate", fn := fun _ => fun
  | [d1, d2, d3, d4, d5] => { results := [.lit (.bool false)], args := [d1, d2, d3, d4, d5] }
  | _ => none }
def FnPathsToCertificateWrongFalsely : Prop := fnPathsToCertificateRow.holds Try.pinned (OpenSpec.ofChange fnPathsToCertificateWrong)

end Rows
end Go.Proofs.Qxb6628650a
