/-
  THE PROOF OF 'Rows.FnPostgresCommentEndPrefixStableSaid': the frame is the shell's own; the walk is made out of the contracts.
-/
import Derived.Test.Qxb6628757aRows
import Derived.WalkKit
import Derived.ProofKit
import Derived.OpenShut
import Derived.ShutString
import Derived.Test.Qxb6628757aWalkA
namespace Go.Proofs.Qxb6628757a.fnPostgresCommentEndPrefixStable
open Go.ChangeShapes Go.WideShapes Go.ChangeAt Go.RowKit
open Go.ChangeMaps (open_string shut_string)
set_option linter.unusedVariables false      -- a walk need not use every 'w<i>' (that an integer argument fits its kind)

theorem own : ownKnob Try.prog.godebug = none := by kernel_rfl

/-! ### STEP 1: THE WALK: the Go text returns true. 'Grown w w'': the world has at most new blocks (Derived/RowKit3.lean). Part the cases AHEAD of 'go_enter' where a test parts the walk; take each callee by a contract of your own. -/
open Pl
theorem stable (a b : ByteArray) (i : Nat) (hi : i ≤ a.size) :
    (∃ m, sc a i 0 = (m + 2, true) ∧ sc (a ++ b) i 0 = (m + 2, true) ∧ i ≤ m ∧ m + 2 ≤ a.size ∧ bt a m = 42 ∧ bt a (m + 1) = 47) ∨
    (∃ e, sc a i 0 = (a.size, false) ∧ sc (a ++ b) i 0 = (e, true) ∧ a.size + 1 ≤ e ∧ e ≤ (a ++ b).size) ∨
    (sc a i 0 = (a.size, false) ∧ sc (a ++ b) i 0 = ((a ++ b).size, false)) := by
  have h1 := sc_bd a i 0
  have h2 := sc_bd (a ++ b) i 0
  have h3 := sc_app a b i 0
  generalize e1 : sc a i 0 = r1 at *
  generalize e2 : sc (a ++ b) i 0 = r2 at *
  obtain ⟨x1, b1⟩ := r1
  obtain ⟨x2, b2⟩ := r2
  cases b1
  · have g := h1.2 rfl
    simp only at g
    cases b2
    · have k := h2.2 rfl
      simp only at k
      exact Or.inr (Or.inr ⟨by rw [g], by rw [k]⟩)
    · exact Or.inr (Or.inl ⟨x2, by rw [g], rfl, h3.2 rfl hi rfl, (h2.1 rfl).2.1⟩)
  · have g := h1.1 rfl
    simp only at g
    obtain ⟨m, rfl⟩ : ∃ m, x1 = m + 2 := ⟨x1 - 2, by omega⟩
    exact Or.inl ⟨m, rfl, h3.1 rfl, by omega, g.2.1, g.2.2.1, g.2.2.2⟩

set_option maxHeartbeats 1000000 in
theorem walk_in (a b : ByteArray) (i : Nat) (w0 : a.size ≤ maxLen) (w1 : b.size ≤ maxLen) (hb : a.size ≤ 65536) (hb2 : b.size ≤ 65536) (hi : i ≤ a.size) (w : World) :
    Calls Try.prog 4 #[.string a, .string b, .int .i64 i] w fun e w' => e = .returned (.bool true) ∧ Grown w w' := by
  have hd : decide (a.size + b.size ≤ 1048576) = true := by simp; omega
  go_enter Try.func4, Try.ntmps4
  go_wp2_with fail
  refine (bytes8_any _ _ _ _ w0 w1).mono ?_
  rintro e w' ⟨rfl, hw⟩
  rw [hw, hd]; clear hw w' hd
  go_wp2_with fail
  refine (zend_any a i _ (by omega) hi).mono ?_
  rintro e w' ⟨rfl, hw⟩
  rw [hw]; clear hw w'
  go_wp2_with fail
  have hsz : (a ++ b).size = a.size + b.size := ByteArray.size_append
  refine (zend_any (a ++ b) i _ (by omega) (by omega)).mono ?_
  rintro e w' ⟨rfl, hw⟩
  rw [hw]; clear hw w'
  rcases stable a b i hi with ⟨m, h1, h2, h3, h4, h5, h6⟩ | ⟨e, h1, h2, h3, h4⟩ | ⟨h1, h2⟩
  · rw [h1, h2]
    rw [bt_lt (show m < a.size by omega)] at h5
    rw [bt_lt (show m + 1 < a.size by omega)] at h6
    have hm : m < a.size := by omega
    have hm1 : m + 1 < a.size := by omega
    have h5' : ((a[m].toNat : Int) != 42) = false := by rw [h5]; rfl
    have h6' : ((a[m + 1].toNat : Int) != 47) = false := by rw [h6]; rfl
    clear h1 h2 h5 h6
    go_wp2_with fail
    go_ret
    exact ⟨rfl, Grown.refl _⟩
  · rw [h1, h2]
    rw [hsz] at h4
    clear h1 h2
    go_wp2_with fail
    go_ret
    exact ⟨ret_bool (by simp; omega), Grown.refl _⟩
  · rw [h1, h2, hsz]
    clear h1 h2
    go_wp2_with fail
    go_ret
    exact ⟨rfl, Grown.refl _⟩

theorem walk (a0 : ByteArray) (a1 : ByteArray) (a2 : Int) (w0 : a0.size ≤ maxLen) (w1 : a1.size ≤ maxLen) (w2 : (Lit.int .i64 a2).wf = true) (w : World) :
    Calls Try.prog 4 #[.string a0, .string a1, .int .i64 a2] w fun e w' => e = .returned (.bool true) ∧ Grown w w' := by
  have hs := w0
  have hs1 := w1
  unfold maxLen at hs hs1
  by_cases hb0 : a0.size + a1.size ≤ 1048576
  · have hd : decide (a0.size + a1.size ≤ 1048576) = true := by simp; omega
    by_cases hb : a0.size ≤ 65536
    · by_cases hb2 : a1.size ≤ 65536
      · by_cases h1 : 0 ≤ a2
        · by_cases h2 : a2 ≤ a0.size
          · obtain ⟨i, rfl⟩ := Int.eq_ofNat_of_zero_le h1
            exact walk_in a0 a1 i w0 w1 hb hb2 (by omega) w
          · go_enter Try.func4, Try.ntmps4
            go_wp2_with fail
            refine (bytes8_any _ _ _ _ w0 w1).mono ?_
            rintro e w' ⟨rfl, hw⟩
            rw [hw, hd]; clear hw w' hd
            go_wp2_with fail
            go_ret
            exact ⟨rfl, Grown.refl _⟩
        · go_enter Try.func4, Try.ntmps4
          go_wp2_with fail
          refine (bytes8_any _ _ _ _ w0 w1).mono ?_
          rintro e w' ⟨rfl, hw⟩
          rw [hw, hd]; clear hw w' hd
          go_wp2_with fail
          go_ret
          exact ⟨rfl, Grown.refl _⟩
      · go_enter Try.func4, Try.ntmps4
        go_wp2_with fail
        refine (bytes8_any _ _ _ _ w0 w1).mono ?_
        rintro e w' ⟨rfl, hw⟩
        rw [hw, hd]; clear hw w' hd
        go_wp2_with fail
        go_ret
        exact ⟨rfl, Grown.refl _⟩
    · go_enter Try.func4, Try.ntmps4
      go_wp2_with fail
      refine (bytes8_any _ _ _ _ w0 w1).mono ?_
      rintro e w' ⟨rfl, hw⟩
      rw [hw, hd]; clear hw w' hd
      go_wp2_with fail
      go_ret
      exact ⟨rfl, Grown.refl _⟩
  · have hd : decide (a0.size + a1.size ≤ 1048576) = false := by simp; omega
    go_enter Try.func4, Try.ntmps4
    go_wp2_with fail
    refine (bytes8_any _ _ _ _ w0 w1).mono ?_
    rintro e w' ⟨rfl, hw⟩
    rw [hw, hd]; clear hw w' hd
    go_wp2_with fail
    go_ret
    exact ⟨rfl, Grown.refl _⟩

/-! ### THE ROW's STEP: WRITTEN OUT: LEAVE IT -/
set_option maxRecDepth 100000 in
theorem lifted (os : Os) (started : os.Started) (H : Type) (enc : TypeId × Value → H) :
    ReturnsInHanded {} Try.checked os 4 .any (Rows.fnPostgresCommentEndPrefixStableSpec.pre6 enc Try.prog Try.f4 Rows.fnPostgresCommentEndPrefixStableRow.domain false) (Rows.fnPostgresCommentEndPrefixStableSpec.post enc Try.prog Try.f4 false true false false) := by
  refine returnsInHanded_of_change (C := Try.checked) own started (by kernel_rfl) Try.func4
    (ChangeSpec.witness6 (enc := enc) (C := Try.checked) false ⟨#[], #[.string ByteArray.empty, .string ByteArray.empty, .int .i64 0], []⟩ 8 (by kernel_rfl) (by kernel_rfl) (by kernel_rfl) (by kernel_rfl)) ?_
  intro W base args ds gs before hval0 hW hcnd _
  have hval : ∀ (j : Nat) t v, Try.f4.params[j]? = some t → args[j]? = some v → Value.okWide Try.prog W .any base t v := hval0
  have hW' := hW
  obtain ⟨p, q, hA0, hV, rfl, hfz, hnd⟩ := hW
  have hA : DataW.TrodAll enc Try.prog W 0 (fun _ => true) true Try.f4.params.toList args.toList ds p := hA0
  rw [Try.params4] at hA hval
  obtain ⟨v0, vs0, d0, ds0, p0, q0, hargs, rfl, rfl, h0, r0⟩ := trodAll_cons hA
  obtain ⟨v1, vs1, d1, ds1, p1, q1, rfl, rfl, rfl, h1, r1⟩ := trodAll_cons r0
  obtain ⟨v2, vs2, d2, ds2, p2, q2, rfl, rfl, rfl, h2, r2⟩ := trodAll_cons r1
  obtain ⟨rfl, rfl, rfl⟩ := trodAll_nil r2
  obtain rfl : args = #[v0, v1, v2] := by cases args; simp_all
  obtain ⟨rfl, rfl⟩ := trodVars_none hV
  obtain ⟨a0, rfl, rfl, rfl, w0⟩ := open_string Try.underlying9 (hval 0 9 v0 rfl rfl) h0
  obtain ⟨a1, rfl, rfl, rfl, w1⟩ := open_string Try.underlying9 (hval 1 9 v1 rfl rfl) h1
  obtain ⟨a2, rfl, rfl, rfl, w2⟩ := open_int Try.underlying3 (hval 2 3 v2 rfl rfl) h2
  clear hA0 hval0
  simp only [List.append_nil] at hW'
  refine (walk a0 a1 a2 w0 w1 w2 W).mono fun e W' ⟨he, hg⟩ => ?_
  subst he
  exact ⟨_, rfl, post_of_same (pa := []) (pv := []) hW' (fun _ _ _ => (trodAll_cons_mk (shut_bool Try.underlying4 _) trodAll_mk0)) (fun sp _ => (trodAll_cons_mk (shut_string Try.underlying9 w0) (trodAll_cons_mk (shut_string Try.underlying9 w1) (trodAll_cons_mk (shut_int Try.underlying3 w2) trodAll_mk0)))) (fun _ _ => rfl) rfl
    (hg.frame _) hg.2.1 (ok_one (by kernel_rfl) rfl (okWide_bool_mk Try.underlying4 _))⟩

theorem over : Rows.fnPostgresCommentEndPrefixStableRow.holds Try.pinned (OpenSpec.ofChange Rows.fnPostgresCommentEndPrefixStableSpec) :=
  OpenClaim.holds_of_wide 4 Try.f4 rfl rfl rfl rfl rfl rfl rfl ⟨rfl, rfl, rfl, rfl, rfl⟩ rfl rfl rfl rfl rfl (by kernel_rfl) Try.func4 (by kernel_rfl)
    (of_decide_eq_true (by kernel_rfl)) (by unfold Func.isWrapper; first | (rw [if_pos (by decide +kernel)]; kernel_rfl) | (rw [if_neg (by decide +kernel)]; exact ⟨rfl, rfl⟩))
    (fun os started H enc _ => lifted os started H enc)

/-- ████ THE STATEMENT ████ -/
theorem proved : Rows.FnPostgresCommentEndPrefixStableSaid :=
  over
#print axioms proved
end Go.Proofs.Qxb6628757a.fnPostgresCommentEndPrefixStable
