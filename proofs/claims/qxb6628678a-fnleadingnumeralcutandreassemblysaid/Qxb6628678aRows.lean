/-
  No cell of these rows narrows 'for every input' (looked for: loops, veiled, ifaces, maps, wideKeys, modest, calm, conditions, laid).
  DERIVED. THE GIVEN ROWS OF THIS SEAT. 2 by the template 'for every input the law returns true; each argument reads behind the call as it read before'; 0 by the template 'total and deterministic' (their statements: Qxb6628678aTotals.lean).
  GIVEN WITH THE SEED: the statements are not yours to turn. If you find one false, say at which input.
  Laid BY PROGRAM, IN A SANDBOX (cutbox-rows.mjs): the forced cells as the released guide's own fill.sh prints them over the translation 8bac927758ac9216… (all of the seat's roots in one cut). By AI agents, Wed Nov 11 2026. No macro, syntax, notation, axiom, sorry.
-/
import Derived.Test.Qxb6628678aChecked
import GoSem.Claim
import GoSem.ClaimJoined
import GoSem.ClaimMapViews
import Derived.JoinedTies
import Derived.KernelRfl
namespace Go.Proofs.Qxb6628678a
/- THE CELL 'sum', in the pinned program and in every row, IS THE sha256 OF THE DUMP (.gsa) THAT Qxb6628678aProg.lean LOADS. Nothing in Lean hashes anything: it is a label: what it is worth is what the hold of that sum in a sandbox is worth. -/
noncomputable def Try.pinned : Pinned := { name := "qxb6628678a", sum := "8bac927758ac9216dd3c4a74d8692ffbeb8a4160e5efbdcba6a3f13e006d9924", checked := Try.checked }
namespace Rows
def none {H : Type} : Left H := { results := [], args := [] }

/-- 'zzlaws_internal_store_b1.FnLeadingNumeralIsLongestNumeralPrefix': WHATEVER THE INPUT: true; the input reads as it did. -/
def fnLeadingNumeralIsLongestNumeralPrefixSpec : ChangeSpec := { name := "fnLeadingNumeralIsLongestNumeralPrefix", fn := fun _ => fun
  | [d] => { results := [.lit (.bool true)], args := [d] }
  | _ => none }
def fnLeadingNumeralIsLongestNumeralPrefixRow : OpenClaim := { program := "qxb6628678a", sum := "8bac927758ac9216dd3c4a74d8692ffbeb8a4160e5efbdcba6a3f13e006d9924", func := "example.com/gapwise/gapwise/zzlaws_internal_store_b1.FnLeadingNumeralIsLongestNumeralPrefix", spec := "fnLeadingNumeralIsLongestNumeralPrefix", apart := false }
def FnLeadingNumeralIsLongestNumeralPrefixSaid : Prop := fnLeadingNumeralIsLongestNumeralPrefixRow.holds Try.pinned (OpenSpec.ofChange fnLeadingNumeralIsLongestNumeralPrefixSpec)

/-- ITS FALSE NEIGHBOUR: 'it returns false'. Refute it at one input. -/
def fnLeadingNumeralIsLongestNumeralPrefixWrong : ChangeSpec := { name := "fnLeadingNumeralIsLongestNumeralPrefix", fn := fun _ => fun
  | [d] => { results := [.lit (.bool false)], args := [d] }
  | _ => none }
def FnLeadingNumeralIsLongestNumeralPrefixWrongFalsely : Prop := fnLeadingNumeralIsLongestNumeralPrefixRow.holds Try.pinned (OpenSpec.ofChange fnLeadingNumeralIsLongestNumeralPrefixWrong)

/-- 'zzlaws_internal_store_b1.FnLeadingNumeralCutAndReassembly': WHATEVER THE INPUT: true; the input reads as it did. -/
def fnLeadingNumeralCutAndReassemblySpec : ChangeSpec := { name := "fnLeadingNumeralCutAndReassembly", fn := fun _ => fun
  | [d1, d2] => { results := [.lit (.bool true)], args := [d1, d2] }
  | _ => none }
def fnLeadingNumeralCutAndReassemblyRow : OpenClaim := { program := "qxb6628678a", sum := "8bac927758ac9216dd3c4a74d8692ffbeb8a4160e5efbdcba6a3f13e006d9924", func := "example.com/gapwise/gapwise/zzlaws_internal_store_b1.FnLeadingNumeralCutAndReassembly", spec := "fnLeadingNumeralCutAndReassembly", apart := false }
def FnLeadingNumeralCutAndReassemblySaid : Prop := fnLeadingNumeralCutAndReassemblyRow.holds Try.pinned (OpenSpec.ofChange fnLeadingNumeralCutAndReassemblySpec)

/-- ITS FALSE NEIGHBOUR: 'it returns false'. Refute it at one input. -/
def fnLeadingNumeralCutAndReassemblyWrong : ChangeSpec := { name := "fnLeadingNumeralCutAndReassembly", fn := fun _ => fun
  | [d1, d2] => { results := [.lit (.bool false)], args := [d1, d2] }
  | _ => none }
def FnLeadingNumeralCutAndReassemblyWrongFalsely : Prop := fnLeadingNumeralCutAndReassemblyRow.holds Try.pinned (OpenSpec.ofChange fnLeadingNumeralCutAndReassemblyWrong)

end Rows
end Go.Proofs.Qxb6628678a
