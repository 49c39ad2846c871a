/-
  No cell of these rows narrows 'for every input' (looked for: loops, veiled, ifaces, maps, wideKeys, modest, calm, conditions, laid).
  DERIVED. THE GIVEN ROWS OF THIS SEAT. 2 by the template 'for every input the law returns true; each argument reads behind the call as it read before'; 0 by the template 'total and deterministic' (their statements: Qxb6628757aTotals.lean).
  GIVEN WITH THE SEED: the statements are not yours to turn. If you find one false, say at which input.
  Laid BY PROGRAM, IN A SANDBOX (cutbox-rows.mjs): the forced cells as the released guide's own fill.sh prints them over the translation cc912586588f47db… (all of the seat's roots in one cut). By AI agents, Wed Nov 11 2026. No macro, syntax, notation, axiom, sorry.
-/
import Derived.Test.Qxb6628757aChecked
import GoSem.Claim
import GoSem.ClaimJoined
import GoSem.ClaimMapViews
import Derived.JoinedTies
import Derived.KernelRfl
namespace Go.Proofs.Qxb6628757a
/- THE CELL 'sum', in the pinned program and in every row, IS THE sha256 OF THE DUMP (.gsa) THAT Qxb6628757aProg.lean LOADS. Nothing in Lean hashes anything: it is a label: what it is worth is what the hold of that sum in a sandbox is worth. -/
noncomputable def Try.pinned : Pinned := { name := "qxb6628757a", sum := "cc912586588f47dbb9d377460e542d0a4d55a1d81098f9ab279b64fda66ebbfe", checked := Try.checked }
namespace Rows
def none {H : Type} : Left H := { results := [], args := [] }

/-- 'zzlaws_root_b1.FnPostgresCommentEndNestedGrammar': WHATEVER THE INPUT: true; the input reads as it did. -/
def fnPostgresCommentEndNestedGrammarSpec : ChangeSpec := { name := "fnPostgresCommentEndNestedGrammar", fn := fun _ => fun
  | [d1, d2] => { results := [.lit (.bool true)], args := [d1, d2] }
  | _ => none }
def fnPostgresCommentEndNestedGrammarRow : OpenClaim := { program := "qxb6628757a", sum := "cc912586588f47dbb9d377460e542d0a4d55a1d81098f9ab279b64fda66ebbfe", func := "example.com/onceward/onceward/zzlaws_root_b1.FnPostgresCommentEndNestedGrammar", spec := "fnPostgresCommentEndNestedGrammar", recurses := true, apart := false }
def FnPostgresCommentEndNestedGrammarSaid : Prop := fnPostgresCommentEndNestedGrammarRow.holds Try.pinned (OpenSpec.ofChange fnPostgresCommentEndNestedGrammarSpec)

/-- ITS FALSE NEIGHBOUR: 'it returns false'. Refute it at one input. -/
def fnPostgresCommentEndNestedGrammarWrong : ChangeSpec := { name := "fnPostgresCommentEndNestedGrammar", fn := fun _ => fun
  | [d1, d2] => { results := [.lit (.bool false)], args := [d1, d2] }
  | _ => none }
def FnPostgresCommentEndNestedGrammarWrongFalsely : Prop := fnPostgresCommentEndNestedGrammarRow.holds Try.pinned (OpenSpec.ofChange fnPostgresCommentEndNestedGrammarWrong)

/-- 'zzlaws_root_b1.FnPostgresCommentEndPrefixStable': WHATEVER THE INPUT: true; the input reads as it did. -/
def fnPostgresCommentEndPrefixStableSpec : ChangeSpec := { name := "fnPostgresCommentEndPrefixStable", fn := fun _ => fun
  | [d1, d2, d3] => { results := [.lit (.bool true)], args := [d1, d2, d3] }
  | _ => none }
def fnPostgresCommentEndPrefixStableRow : OpenClaim := { program := "qxb6628757a", sum := "cc912586588f47dbb9d377460e542d0a4d55a1d81098f9ab279b64fda66ebbfe", func := "example.com/onceward/onceward/zzlaws_root_b1.FnPostgresCommentEndPrefixStable", spec := "fnPostgresCommentEndPrefixStable", apart := false }
def FnPostgresCommentEndPrefixStableSaid : Prop := fnPostgresCommentEndPrefixStableRow.holds Try.pinned (OpenSpec.ofChange fnPostgresCommentEndPrefixStableSpec)

/-- ITS FALSE NEIGHBOUR: 'it returns false'. Refute it at one input. -/
def fnPostgresCommentEndPrefixStableWrong : ChangeSpec := { name := "fnPostgresCommentEndPrefixStable", fn := fun _ => fun
  | [d1, d2, d3] => { results := [.lit (.bool false)], args := [d1, d2, d3] }
  | _ => none }
def FnPostgresCommentEndPrefixStableWrongFalsely : Prop := fnPostgresCommentEndPrefixStableRow.holds Try.pinned (OpenSpec.ofChange fnPostgresCommentEndPrefixStableWrong)

end Rows
end Go.Proofs.Qxb6628757a
