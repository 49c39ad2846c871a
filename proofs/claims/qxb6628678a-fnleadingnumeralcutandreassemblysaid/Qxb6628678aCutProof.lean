/-
  THE PROOF OF 'Rows.FnLeadingNumeralCutAndReassemblySaid': the frame is the shell's own; the walk is made out of the contracts in WalkB, WalkE and the plain law in Cut.
-/
import Derived.Test.Qxb6628678aRows
import Derived.WalkKit
import Derived.ProofKit
import Derived.OpenShut
import Derived.ShutString
import Derived.Test.Qxb6628678aWalkB
import Derived.Test.Qxb6628678aWalkE
namespace Go.Proofs.Qxb6628678a.fnLeadingNumeralCutAndReassembly
open Go.ChangeShapes Go.WideShapes Go.ChangeAt Go.RowKit
open Go.ChangeMaps (open_string shut_string)
set_option linter.unusedVariables false      -- a walk need not use every 'w<i>' (that an integer argument fits its kind)

theorem own : ownKnob Try.prog.godebug = none := by kernel_rfl

/-! ### STEP 1: THE WALK: the Go text returns true. 'Grown w w'': the world has at most new blocks (Derived/RowKit3.lean). Part the cases AHEAD of 'go_enter' where a test parts the walk; take each callee by a contract of your own. -/
open Pl

theorem isD_at {s : ByteArray} {k : Nat} (h : k < s.size) : isD (s[k].toNat) = isD (bt s k) := by rw [bt_lt h]

set_option maxRecDepth 100000 in
set_option maxHeartbeats 4000000 in
theorem walk_in (a0 : ByteArray) (K : Nat) (w0 : a0.size ≤ maxLen) (hb : a0.size ≤ 1048576) (hK : K ≤ a0.size) (w : World) :
    Calls Try.prog 4 #[.string a0, .int .i64 K] w fun e w' => e = .returned (.bool true) ∧ Grown w w' := by
  have hs := w0
  unfold maxLen at hs
  have hd : decide (a0.size ≤ 1048576) = true := by simp [hb]
  have p1 := pL_le a0
  go_enter Try.func4, Try.ntmps4
  go_wp2_with fail
  refine (bytes8_any _ _ _ w0).mono ?_
  rintro e w' ⟨rfl, hw⟩
  rw [hw, hd]; clear hw w' hd
  go_wp2_with fail
  refine (lead_any _ _ w0).mono ?_
  rintro e w' ⟨rfl, P, Q, hw⟩
  rw [hw]; clear hw w'
  go_upto_region 11 with fail
  go_cut [55] (fun b wx => b = .bool (isSg (bt a0 0)) ∧ ((w.alloc (.cells P 24)).alloc (.cells Q 24)).alloc (NB (pSign a0) (pWhole a0) (pFrac a0) (pExp a0)) = wx)
  case first =>
    by_cases h0 : 0 < a0.size
    · have hb := hide (bt_lt h0)
      have HB := hide (isSg_int (bt a0 0))
      go_wp2_with fail
      all_goals go_meet
      all_goals exact ⟨by rw [HB.out, hb.out]; try simp [*], rfl⟩
    · have H := hide (show isSg (bt a0 0) = false by rw [bt_ge (by omega)]; rfl)
      go_wp2_with fail
      go_meet
      case rel => exact ⟨by rw [H.out], rfl⟩
  case rest =>
    obtain ⟨rfl, rfl⟩ := hcut
    go_upto_if 55 with fail
    go_cut [7] (fun i wx => i = .int .i64 (sg a0) ∧ ((w.alloc (.cells P 24)).alloc (.cells Q 24)).alloc (NB (pSign a0) (pWhole a0) (pFrac a0) (pExp a0)) = wx)
    case first =>
      cases h : isSg (bt a0 0)
      · have H := hide (show sg a0 = 0 by simp [sg, h])
        go_wp2_with fail
        go_meet
        case rel => exact ⟨by rw [H.out]; rfl, rfl⟩
      · have H := hide (show sg a0 = 1 by simp [sg, h])
        go_wp2_with fail
        go_meet
        case rel => exact ⟨by rw [H.out]; rfl, rfl⟩
    case rest =>
      obtain ⟨rfl, rfl⟩ := hcut
      have b1 := sg_le a0
      have HO := hide (okN_iff a0)
      go_upto_region 13 with fail
      go_cut [8] (fun b wx => b = .bool (okN a0) ∧ ((w.alloc (.cells P 24)).alloc (.cells Q 24)).alloc (NB (pSign a0) (pWhole a0) (pFrac a0) (pExp a0)) = wx)
      case first =>
        by_cases h0 : sg a0 < a0.size
        · have hB := hide (bt_lt h0)
          cases hd : isD (bt a0 (sg a0))
          · have hd' := hide hd
            clear hd
            go_wp2_with fail
            refine (isDigit_any _ _ (by omega)).mono ?_
            rintro e w' ⟨rfl, hw⟩
            rw [hw, Int.toNat_natCast, ← hB.out, hd'.out]; clear hw w'
            by_cases h46 : bt a0 (sg a0) = 46
            · have h46' : ((a0[sg a0].toNat : Int) == 46) = true := by rw [← hB.out, h46]; rfl
              have h46'' := hide h46
              clear h46
              by_cases h1 : sg a0 + 1 < a0.size
              · have hC := hide (bt_lt h1)
                go_wp2_with fail
                refine (isDigit_any _ _ (by omega)).mono ?_
                rintro e w' ⟨rfl, hw⟩
                rw [hw, Int.toNat_natCast, ← hC.out]; clear hw w'
                go_wp2_with fail
                go_meet
                case rel => exact ⟨by rw [HO.out, hd'.out, h46''.out]; rfl, rfl⟩
              · have hC := hide (show isD (bt a0 (sg a0 + 1)) = false by rw [bt_ge (by omega)]; rfl)
                go_wp2_with fail
                go_meet
                case rel => exact ⟨by rw [HO.out, hd'.out, hC.out]; simp, rfl⟩
            · have h46' : ((a0[sg a0].toNat : Int) == 46) = false := by rw [← hB.out]; simp; omega
              have h46'' := hide h46
              clear h46
              go_wp2_with fail
              go_meet
              case rel => exact ⟨by rw [HO.out, hd'.out]; simp [h46''.out], rfl⟩
          · have hd' := hide hd
            clear hd
            go_wp2_with fail
            refine (isDigit_any _ _ (by omega)).mono ?_
            rintro e w' ⟨rfl, hw⟩
            rw [hw, Int.toNat_natCast, ← hB.out, hd'.out]; clear hw w'
            go_wp2_with fail
            go_meet
            case rel => exact ⟨by rw [HO.out, hd'.out]; rfl, rfl⟩
        · have H := hide (show okN a0 = false by rw [okN_iff, bt_ge (show a0.size ≤ sg a0 by omega)]; rfl)
          go_wp2_with fail
          go_meet
          case rel => exact ⟨by rw [H.out], rfl⟩
      case rest =>
        obtain ⟨rfl, rfl⟩ := hcut
        have HP := hide (pL_pos a0)
        go_upto_region 14 with fail
        go_cut [8, 89] (fun _ b wx => b = .bool false ∧ ((w.alloc (.cells P 24)).alloc (.cells Q 24)).alloc (NB (pSign a0) (pWhole a0) (pFrac a0) (pExp a0)) = wx)
        case first =>
          cases ho : okN a0
          · have h1 : ¬ 0 < pL a0 := fun x => by rw [HP.out.1 x] at ho; cases ho
            go_wp2_with fail
            go_meet
            case rel => exact ⟨by simp, rfl⟩
          · have h1 : 0 < pL a0 := HP.out.2 ho
            go_wp2_with fail
            go_meet
            case rel => exact ⟨by simp, rfl⟩
        case rest =>
          obtain ⟨rfl, rfl⟩ := hcut
          go_wp2_with fail
          refine (rebuild_any _ _ w0).mono ?_
          rintro e w' ⟨rfl, hw⟩
          rw [hw]; clear hw w'
          have hx : (a0.extract 0 K).size = K := by rw [size_extract a0 0 K hK]; omega
          have hx0 : (a0.extract 0 K).size ≤ maxLen := by rw [hx]; unfold maxLen; omega
          have HX := hide hx
          clear hx
          go_wp2_with fail
          refine (lead_any _ _ hx0).mono ?_
          rintro e w' ⟨rfl, P2, Q2, hw⟩
          rw [hw]; clear hw w'
          by_cases hl : pL a0 ≤ K
          · obtain ⟨e5, e1, e2, e3, e4⟩ := head_parts hK hl
            rw [e1, e2, e3, e4, e5]
            clear e1 e2 e3 e4 e5
            go_wp2_with fail
            go_ret
            exact ⟨rfl, by repeat (first | exact Grown.refl _ | apply Grown.drew | apply Grown.alloc)⟩
          · have hk2 := pL_le (a0.extract 0 K)
            rw [HX.out] at hk2
            go_wp2_with fail
            refine (rebuild_any _ _ hx0).mono ?_
            rintro e w' ⟨rfl, hw⟩
            rw [hw]; clear hw w'
            go_wp2_with fail
            go_ret
            exact ⟨rfl, by repeat (first | exact Grown.refl _ | apply Grown.drew | apply Grown.alloc)⟩

theorem walk (a0 : ByteArray) (a1 : Int) (w0 : a0.size ≤ maxLen) (w1 : (Lit.int .i64 a1).wf = true) (w : World) :
    Calls Try.prog 4 #[.string a0, .int .i64 a1] w fun e w' => e = .returned (.bool true) ∧ Grown w w' := by
  have hs := w0
  unfold maxLen at hs
  by_cases hb : a0.size ≤ 1048576
  · have hd : decide (a0.size ≤ 1048576) = true := by simp [hb]
    by_cases h1 : a1 < 0
    · go_enter Try.func4, Try.ntmps4
      go_wp2_with fail
      refine (bytes8_any _ _ _ w0).mono ?_
      rintro e w' ⟨rfl, hw⟩
      rw [hw, hd]; clear hw w' hd
      go_wp2_with fail
      go_ret
      exact ⟨rfl, Grown.refl _⟩
    · by_cases h2 : (a0.size : Int) < a1
      · go_enter Try.func4, Try.ntmps4
        go_wp2_with fail
        refine (bytes8_any _ _ _ w0).mono ?_
        rintro e w' ⟨rfl, hw⟩
        rw [hw, hd]; clear hw w' hd
        go_wp2_with fail
        go_ret
        exact ⟨rfl, Grown.refl _⟩
      · obtain ⟨K, rfl⟩ := Int.eq_ofNat_of_zero_le (show 0 ≤ a1 by omega)
        exact walk_in a0 K w0 hb (by omega) w
  · have hd : decide (a0.size ≤ 1048576) = false := by simp [hb]
    go_enter Try.func4, Try.ntmps4
    go_wp2_with fail
    refine (bytes8_any _ _ _ w0).mono ?_
    rintro e w' ⟨rfl, hw⟩
    rw [hw, hd]; clear hw w' hd
    go_wp2_with fail
    go_ret
    exact ⟨rfl, Grown.refl _⟩

/-! ### THE ROW's STEP: WRITTEN OUT: LEAVE IT -/
set_option maxRecDepth 100000 in
theorem lifted (os : Os) (started : os.Started) (H : Type) (enc : TypeId × Value → H) :
    ReturnsInHanded {} Try.checked os 4 .any (Rows.fnLeadingNumeralCutAndReassemblySpec.pre6 enc Try.prog Try.f4 Rows.fnLeadingNumeralCutAndReassemblyRow.domain false) (Rows.fnLeadingNumeralCutAndReassemblySpec.post enc Try.prog Try.f4 false true false false) := by
  refine returnsInHanded_of_change (C := Try.checked) own started (by kernel_rfl) Try.func4
    (ChangeSpec.witness6 (enc := enc) (C := Try.checked) false ⟨#[], #[.string ByteArray.empty, .int .i64 0], []⟩ 8 (by kernel_rfl) (by kernel_rfl) (by kernel_rfl) (by kernel_rfl)) ?_
  intro W base args ds gs before hval0 hW hcnd _
  have hval : ∀ (j : Nat) t v, Try.f4.params[j]? = some t → args[j]? = some v → Value.okWide Try.prog W .any base t v := hval0
  have hW' := hW
  obtain ⟨p, q, hA0, hV, rfl, hfz, hnd⟩ := hW
  have hA : DataW.TrodAll enc Try.prog W 0 (fun _ => true) true Try.f4.params.toList args.toList ds p := hA0
  rw [Try.params4] at hA hval
  obtain ⟨v0, vs0, d0, ds0, p0, q0, hargs, rfl, rfl, h0, r0⟩ := trodAll_cons hA
  obtain ⟨v1, vs1, d1, ds1, p1, q1, rfl, rfl, rfl, h1, r1⟩ := trodAll_cons r0
  obtain ⟨rfl, rfl, rfl⟩ := trodAll_nil r1
  obtain rfl : args = #[v0, v1] := by cases args; simp_all
  obtain ⟨rfl, rfl⟩ := trodVars_none hV
  obtain ⟨a0, rfl, rfl, rfl, w0⟩ := open_string Try.underlying9 (hval 0 9 v0 rfl rfl) h0
  obtain ⟨a1, rfl, rfl, rfl, w1⟩ := open_int Try.underlying3 (hval 1 3 v1 rfl rfl) h1
  clear hA0 hval0
  simp only [List.append_nil] at hW'
  refine (walk a0 a1 w0 w1 W).mono fun e W' ⟨he, hg⟩ => ?_
  subst he
  exact ⟨_, rfl, post_of_same (pa := []) (pv := []) hW' (fun _ _ _ => (trodAll_cons_mk (shut_bool Try.underlying4 _) trodAll_mk0)) (fun sp _ => (trodAll_cons_mk (shut_string Try.underlying9 w0) (trodAll_cons_mk (shut_int Try.underlying3 w1) trodAll_mk0))) (fun _ _ => rfl) rfl
    (hg.frame _) hg.2.1 (ok_one (by kernel_rfl) rfl (okWide_bool_mk Try.underlying4 _))⟩

theorem over : Rows.fnLeadingNumeralCutAndReassemblyRow.holds Try.pinned (OpenSpec.ofChange Rows.fnLeadingNumeralCutAndReassemblySpec) :=
  OpenClaim.holds_of_wide 4 Try.f4 rfl rfl rfl rfl rfl rfl rfl ⟨rfl, rfl, rfl, rfl, rfl⟩ rfl rfl rfl rfl rfl (by kernel_rfl) Try.func4 (by kernel_rfl)
    (of_decide_eq_true (by kernel_rfl)) (by unfold Func.isWrapper; first | (rw [if_pos (by decide +kernel)]; kernel_rfl) | (rw [if_neg (by decide +kernel)]; exact ⟨rfl, rfl⟩))
    (fun os started H enc _ => lifted os started H enc)

/-- ████ THE STATEMENT ████ -/
theorem proved : Rows.FnLeadingNumeralCutAndReassemblySaid :=
  over
#print axioms proved
end Go.Proofs.Qxb6628678a.fnLeadingNumeralCutAndReassembly
