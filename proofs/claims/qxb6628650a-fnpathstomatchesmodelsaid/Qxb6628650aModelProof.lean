/-
  FnPathsToMatchesModel (seat b6628650a): the row.
-/
import Derived.Test.Qxb6628650aMod
import Derived.Test.Qxb6628650aOpn
import Derived.ChangeOld
import Derived.Below
namespace Go.Proofs.Qxb6628650a.fnPathsToMatchesModel
open Go.ChangeShapes Go.WideShapes Go.ChangeAt Go.RowKit
set_option linter.unusedVariables false

set_option maxRecDepth 100000 in
theorem lifted (os : Os) (started : os.Started) (H : Type) (enc : TypeId × Value → H) :
    ReturnsInHanded {} Try.checked os 3 .any (Rows.fnPathsToMatchesModelSpec.pre6 enc Try.prog Try.f3 Rows.fnPathsToMatchesModelRow.domain false) (Rows.fnPathsToMatchesModelSpec.post enc Try.prog Try.f3 false true false false) := by
  refine returnsInHanded_of_change (C := Try.checked) own started (by kernel_rfl) Try.func3
    (ChangeSpec.witness6 (enc := enc) (C := Try.checked) false ⟨#[], #[.slice none 0 0, .slice none 0 0, .slice none 0 0, .slice none 0 0, .int .i64 0], []⟩ 8 (by kernel_rfl) (by kernel_rfl) (by kernel_rfl) (by kernel_rfl)) ?_
  intro W base args ds gs before hval0 hW hcnd _
  have hval : ∀ (j : Nat) t v, Try.f3.params[j]? = some t → args[j]? = some v → Value.okWide Try.prog W .any base t v := hval0
  have hW' := hW
  obtain ⟨p, q, hA0, hV, rfl, hfz, hnd⟩ := hW
  have hA : DataW.TrodAll enc Try.prog W 0 (fun _ => true) true Try.f3.params.toList args.toList ds p := hA0
  rw [Try.params3] at hA hval
  obtain ⟨v0, vs0, d0, ds0, p0, q0, hargs, rfl, rfl, h0, r0⟩ := trodAll_cons hA
  obtain ⟨v1, vs1, d1, ds1, p1, q1, rfl, rfl, rfl, h1, r1⟩ := trodAll_cons r0
  obtain ⟨v2, vs2, d2, ds2, p2, q2, rfl, rfl, rfl, h2, r2⟩ := trodAll_cons r1
  obtain ⟨v3, vs3, d3, ds3, p3, q3, rfl, rfl, rfl, h3, r3⟩ := trodAll_cons r2
  obtain ⟨v4, vs4, d4, ds4, p4, q4, rfl, rfl, rfl, h4, r4⟩ := trodAll_cons r3
  obtain ⟨rfl, rfl, rfl⟩ := trodAll_nil r4
  obtain rfl : args = #[v0, v1, v2, v3, v4] := by cases args; simp_all
  obtain ⟨rfl, rfl⟩ := trodVars_none hV
  obtain ⟨a0, len0, cap0, rfl⟩ := okWide_slice Try.underlying22 (hval 0 22 v0 rfl rfl)
  obtain ⟨a1, len1, cap1, rfl⟩ := okWide_slice Try.underlying23 (hval 1 23 v1 rfl rfl)
  obtain ⟨a2, len2, cap2, rfl⟩ := okWide_slice Try.underlying23 (hval 2 23 v2 rfl rfl)
  obtain ⟨a3, len3, cap3, rfl⟩ := okWide_slice Try.underlying24 (hval 3 24 v3 rfl rfl)
  have lt0 : ∀ x ∈ p0, x.block < W.heap.size := by obtain ⟨m, hm⟩ := id h0; exact DataW.trod_lt m _ _ _ hm
  have lt1 : ∀ x ∈ p1, x.block < W.heap.size := by obtain ⟨m, hm⟩ := id h1; exact DataW.trod_lt m _ _ _ hm
  have lt2 : ∀ x ∈ p2, x.block < W.heap.size := by obtain ⟨m, hm⟩ := id h2; exact DataW.trod_lt m _ _ _ hm
  have lt3 : ∀ x ∈ p3, x.block < W.heap.size := by obtain ⟨m, hm⟩ := id h3; exact DataW.trod_lt m _ _ _ hm
  obtain ⟨lab, k0, l0, s0⟩ : ∃ lab : Nat → ByteArray, Rd1 W (.slice a0 len0 cap0) len0 (fun i => .string (lab i)) ∧ len0 ≤ 9223372036854775807 ∧ ∀ i, i < len0 → (lab i).size ≤ 9223372036854775807 := by
    obtain ⟨m, hm⟩ := id h0
    exact open_labels hm
  obtain ⟨fr, k1, l1⟩ : ∃ f : Nat → Int, Rd1 W (.slice a1 len1 cap1) len1 (fun i => .int .i64 (f i)) ∧ len1 ≤ 9223372036854775807 := by
    obtain ⟨m, hm⟩ := id h1
    exact open_nodes hm
  obtain ⟨tt, k2, l2⟩ : ∃ f : Nat → Int, Rd1 W (.slice a2 len2 cap2) len2 (fun i => .int .i64 (f i)) ∧ len2 ≤ 9223372036854775807 := by
    obtain ⟨m, hm⟩ := id h2
    exact open_nodes hm
  obtain ⟨x, k3, l3, s3⟩ : ∃ f : Nat → Nat, Rd1 W (.slice a3 len3 cap3) len3 (fun i => .float .f64 (f i)) ∧ len3 ≤ 9223372036854775807 ∧ ∀ i, i < len3 → f i < 18446744073709551616 := by
    obtain ⟨m, hm⟩ := id h3
    exact open_kms hm
  obtain ⟨en, rfl, rfl, rfl, we⟩ := open_int Try.underlying3 (hval 4 3 v4 rfl rfl) h4
  clear hA0 hval0
  refine (model_any _ _ _ _ len0 len1 len2 len3 lab fr tt x en W k0 k1 k2 k3 l0 l1 l2 l3 s0 s3).mono fun e W' ⟨he, bel⟩ => ?_
  subst he
  exact ⟨_, rfl, _, _, _, [], _, [], hW', trodAll_mk1 (shut_bool Try.underlying4 _),
    (trodAll_cons_mk (Below.trod laidOut (by kernel_rfl) (of_decide_eq_true (by kernel_rfl)) h0 bel lt0)
    (trodAll_cons_mk (Below.trod laidOut (by kernel_rfl) (of_decide_eq_true (by kernel_rfl)) h1 bel lt1)
    (trodAll_cons_mk (Below.trod laidOut (by kernel_rfl) (of_decide_eq_true (by kernel_rfl)) h2 bel lt2)
    (trodAll_cons_mk (Below.trod laidOut (by kernel_rfl) (of_decide_eq_true (by kernel_rfl)) h3 bel lt3)
    (trodAll_cons_mk (shut_int Try.underlying3 we) trodAll_mk0))))), rfl, bel.frame _, fun h => by cases h⟩

theorem over : Rows.fnPathsToMatchesModelRow.holds Try.pinned (OpenSpec.ofChange Rows.fnPathsToMatchesModelSpec) :=
  OpenClaim.holds_of_wide 3 Try.f3 rfl rfl rfl rfl rfl rfl rfl ⟨rfl, rfl, rfl, rfl, rfl⟩ rfl rfl rfl rfl rfl (by kernel_rfl) Try.func3 (by kernel_rfl)
    (of_decide_eq_true (by kernel_rfl)) (by unfold Func.isWrapper; first | (rw [if_pos (by decide +kernel)]; kernel_rfl) | (rw [if_neg (by decide +kernel)]; exact ⟨rfl, rfl⟩))
    (fun os started H enc _ => lifted os started H enc)

/-- The statement. -/
theorem proved : Rows.FnPathsToMatchesModelSaid := over
end Go.Proofs.Qxb6628650a.fnPathsToMatchesModel
