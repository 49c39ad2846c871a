/-
  No cell of these rows narrows 'for every input' (looked for: loops, veiled, ifaces, maps, wideKeys, modest, calm, conditions, laid).
  DERIVED. THE GIVEN ROWS OF THIS SEAT. 2 by the template 'for every input the law returns true; each argument reads behind the call as it read before'; 0 by the template 'total and deterministic' (their statements: Qxb6628726aTotals.lean).
  GIVEN WITH THE SEED: the statements are not yours to turn. If you find one false, say at which input.
  Laid BY PROGRAM, IN A SANDBOX (cutbox-rows.mjs): the forced cells as the released guide's own fill.sh prints them over the translation cd385c01287cb482… (all of the seat's roots in one cut). By AI agents, Wed Nov 11 2026. No macro, syntax, notation, axiom, sorry.
-/
import Derived.Test.Qxb6628726aChecked
import GoSem.Claim
import GoSem.ClaimJoined
import GoSem.ClaimMapViews
import Derived.JoinedTies
import Derived.KernelRfl
namespace Go.Proofs.Qxb6628726a
/- THE CELL 'sum', in the pinned program and in every row, IS THE sha256 OF THE DUMP (.gsa) THAT Qxb6628726aProg.lean LOADS. Nothing in Lean hashes anything: it is a label: what it is worth is what the hold of that sum in a sandbox is worth. -/
noncomputable def Try.pinned : Pinned := { name := "qxb6628726a", sum := "cd385c01287cb4821393dbf2543f60e644de059515312dccc8eea51e4c7b5386", checked := Try.checked }
namespace Rows
def none {H : Type} : Left H := { results := [], args := [] }

/-- 'zzlaws_internal_plans_b1.FnAppendKeptMatchesModel': WHATEVER THE INPUT: true; the input reads as it did. -/
def fnAppendKeptMatchesModelSpec : ChangeSpec := { name := "fnAppendKeptMatchesModel", fn := fun _ => fun
  | [d1, d2, d3, d4, d5] => { results := [.lit (.bool true)], args := [d1, d2, d3, d4, d5] }
  | _ => none }
def fnAppendKeptMatchesModelRow : OpenClaim := { program := "qxb6628726a", sum := "cd385c01287cb4821393dbf2543f60e644de059515312dccc8eea51e4c7b5386", func := "example.com/allotment/allotment/zzlaws_internal_plans_b1.FnAppendKeptMatchesModel", spec := "fnAppendKeptMatchesModel", apart := false }
def FnAppendKeptMatchesModelSaid : Prop := fnAppendKeptMatchesModelRow.holds Try.pinned (OpenSpec.ofChange fnAppendKeptMatchesModelSpec)

/-- ITS FALSE NEIGHBOUR: 'it returns false'. Refute it at one input. -/
def fnAppendKeptMatchesModelWrong : ChangeSpec := { name := "fnAppendKeptMatchesModel", fn := fun _ => fun
  | [d1, d2, d3, d4, d5] => { results := [.lit (.bool false)], args := [d1, d2, d3, d4, d5] }
  | _ => none }
def FnAppendKeptMatchesModelWrongFalsely : Prop := fnAppendKeptMatchesModelRow.holds Try.pinned (OpenSpec.ofChange fnAppendKeptMatchesModelWrong)

/-- 'zzlaws_internal_plans_b1.FnAppendKeptShiftFree': WHATEVER THE INPUT: true; the input reads as it did. -/
def fnAppendKeptShiftFreeSpec : ChangeSpec := { name := "fnAppendKeptShiftFree", fn := fun _ => fun
  | [d1, d2, d3, d4, d5, d6] => { results := [.lit (.bool true)], args := [d1, d2, d3, d4, d5, d6] }
  | _ => none }
def fnAppendKeptShiftFreeRow : OpenClaim := { program := "qxb6628726a", sum := "cd385c01287cb4821393dbf2543f60e644de059515312dccc8eea51e4c7b5386", func := "example.com/allotment/allotment/zzlaws_internal_plans_b1.FnAppendKeptShiftFree", spec := "fnAppendKeptShiftFree", apart := false }
def FnAppendKeptShiftFreeSaid : Prop := fnAppendKeptShiftFreeRow.holds Try.pinned (OpenSpec.ofChange fnAppendKeptShiftFreeSpec)

/-- ITS FALSE NEIGHBOUR: 'it returns false'. Refute it at one input. -/
def fnAppendKeptShiftFreeWrong : ChangeSpec := { name := "fnAppendKeptShiftFree", fn := fun _ => fun
  | [d1, d2, d3, d4, d5, d6] => { results := [.lit (.bool false)], args := [d1, d2, d3, d4, d5, d6] }
  | _ => none }
def FnAppendKeptShiftFreeWrongFalsely : Prop := fnAppendKeptShiftFreeRow.holds Try.pinned (OpenSpec.ofChange fnAppendKeptShiftFreeWrong)

end Rows
end Go.Proofs.Qxb6628726a
