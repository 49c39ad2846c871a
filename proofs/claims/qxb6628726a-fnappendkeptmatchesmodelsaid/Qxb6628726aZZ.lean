/-
  The bounds on lengths (seat b6628726a): they answer, and write nothing.
-/
import Derived.Test.Qxb6628726aPrem
namespace Go.Proofs.Qxb6628726a
open Go.RowKit
set_option linter.unusedVariables false

def ZPost (e : Ending) : Prop := ∃ b : Bool, e = .returned (.bool b)
theorem ZPost.is {e : Ending} {b : Bool} (h : e = .returned (.bool b)) : ZPost e := ⟨b, h⟩

set_option maxRecDepth 100000 in
set_option maxHeartbeats 1000000 in
theorem zz13_any (a0 a1 a2 a3 : Option Addr) (n0 n1 n2 n3 c0 c1 c2 c3 : Nat) (t d : Int) (w : World) (h0 : n0 ≤ 9223372036854775807) (h1 : n1 ≤ 9223372036854775807) (h2 : n2 ≤ 9223372036854775807) (h3 : n3 ≤ 9223372036854775807) :
    Calls Try.prog 13 #[.slice a0 n0 c0, .slice a1 n1 c1, .slice a2 n2 c2, .slice a3 n3 c3, .int .i64 t, .int .i64 d] w fun e w' => ZPost e ∧ w' = w := by
  go_enter Try.func13, Try.ntmps13
  go_wp2_with fail
  all_goals (go_ret; exact ⟨.is rfl, rfl⟩)

set_option maxRecDepth 100000 in
set_option maxHeartbeats 1000000 in
theorem zz5_any (a0 a1 a2 a3 : Option Addr) (n0 n1 n2 n3 c0 c1 c2 c3 : Nat) (t : Int) (w : World) (h0 : n0 ≤ 9223372036854775807) (h1 : n1 ≤ 9223372036854775807) (h2 : n2 ≤ 9223372036854775807) (h3 : n3 ≤ 9223372036854775807) :
    Calls Try.prog 5 #[.slice a0 n0 c0, .slice a1 n1 c1, .slice a2 n2 c2, .slice a3 n3 c3, .int .i64 t] w fun e w' => ZPost e ∧ w' = w := by
  go_enter Try.func5, Try.ntmps5
  go_wp2_with fail
  all_goals (go_ret; exact ⟨.is rfl, rfl⟩)
end Go.Proofs.Qxb6628726a
