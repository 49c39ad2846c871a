/-
  THE WALK of LeadingNumeral (seat b6628678a).
-/
import Derived.Test.Qxb6628678aWalkA
import Derived.Test.Qxb6628678aAuto
import Derived.Deep.DeepCutAuto
namespace Go.Proofs.Qxb6628678a
open Go.RowKit
open Pl

abbrev NB (a b c d : ByteArray) : Obj := .cells #[.string a, .string b, .string c, .string d] 24

theorem hD_int {s : ByteArray} (h : wE s < s.size) : hD s = ((s[wE s].toNat : Int) == 46) := by
  rw [Bool.eq_iff_iff]; simp [hD, bt_lt h]; omega
theorem ext_nil (s : ByteArray) (a b : Nat) (h : b ≤ s.size) : (s.extract a b).toList = [] ↔ b ≤ a := by
  rw [Go.ByteArray.toList_eq, Array.toList_eq_nil_iff, ← Array.size_eq_zero_iff]
  have := size_extract s a b h
  simp only [ByteArray.size] at this
  omega
theorem okN_not_int {s : ByteArray} : (!okN s) = ((s.extract (sg s) (wE s)).toList.isEmpty && (s.extract (fB s) (fE s)).toList.isEmpty) := by
  rw [Bool.eq_iff_iff]
  simp only [okN, Bool.not_eq_true', Bool.or_eq_false_iff, decide_eq_false_iff_not, Bool.and_eq_true, List.isEmpty_iff, ext_nil _ _ _ (wE_le s), ext_nil _ _ _ (fE_le s)]
  omega
theorem two (a b : Bool) {x y : World} (h : a = b) (k : x = y) : Value.bool a = .bool b ∧ x = y := ⟨by rw [h], k⟩

set_option maxRecDepth 100000 in
set_option maxHeartbeats 1000000 in
theorem lead_any (s : ByteArray) (w : World) (hs : s.size ≤ maxLen) :
    Calls Try.prog 6 #[.string s] w fun e w' => e = .returned (.tuple #[.agg #[.string (pSign s), .string (pWhole s), .string (pFrac s), .string (pExp s)], .int .i64 (pL s)]) ∧ ∃ P Q : Array Value, w' = (w.alloc (.cells P 24)).alloc (.cells Q 24) := by
  have hs0 := hs
  unfold maxLen at hs
  go_enter Try.func6, Try.ntmps6
  go_upto_region 3 with fail
  go_cut [23] (fun b wx => b = .bool (isSg (bt s 0)) ∧ wx = (w.alloc (NB ⟨#[]⟩ ⟨#[]⟩ ⟨#[]⟩ ⟨#[]⟩)).alloc (NB ⟨#[]⟩ ⟨#[]⟩ ⟨#[]⟩ ⟨#[]⟩))
  case first =>
    by_cases h0 : 0 < s.size
    · have hb := bt_lt h0
      have H := hide (show isSg (bt s 0) = (((s[0].toNat : Int) == 43) || ((s[0].toNat : Int) == 45)) by rw [hb, isSg_int])
      clear hb
      go_wp2_with fail
      all_goals go_meet
      all_goals exact two _ _ (by rw [H.out]; try simp [*]) rfl
    · have H := hide (show isSg (bt s 0) = false by rw [bt_ge (by omega)]; rfl)
      go_wp2_with fail
      go_meet
      case rel => exact ⟨by rw [H.out], rfl⟩
  case rest =>
    obtain ⟨rfl, rfl⟩ := hcut
    go_upto_if 23 with fail
    go_cut [5] (fun i wx => i = .int .i64 (sg s) ∧ wx = (w.alloc (NB ⟨#[]⟩ ⟨#[]⟩ ⟨#[]⟩ ⟨#[]⟩)).alloc (NB (s.extract 0 (sg s)) ⟨#[]⟩ ⟨#[]⟩ ⟨#[]⟩))
    case first =>
      cases h : isSg (bt s 0)
      · have H := hide (show sg s = 0 by simp [sg, h])
        go_wp2_with fail
        go_meet
        case rel => exact ⟨by rw [H.out]; rfl, by rw [H.out, extract_self]; rfl⟩
      · have H := hide (show sg s = 1 by simp [sg, h])
        have h1 : 1 ≤ (s.size : Int) := by have := sg_le s; rw [H.out] at this; omega
        go_wp2_with fail
        go_meet
        case rel => exact ⟨by rw [H.out]; rfl, by rw [H.out]⟩
    case rest =>
      obtain ⟨rfl, rfl⟩ := hcut
      have b1 := sg_le s
      have b2 := wE_ge s
      have b3 := wE_le s
      go_wp2_with fail
      refine (digits_any _ _ _ hs0 (by omega) (by omega)).mono ?_
      rintro e w' ⟨rfl, rfl⟩
      rw [Int.toNat_natCast, show dg s (sg s) = wE s from rfl]
      go_upto_region 7 with fail
      go_cut [45] (fun b wx => b = .bool (hD s) ∧ wx = (w.alloc (NB ⟨#[]⟩ ⟨#[]⟩ ⟨#[]⟩ ⟨#[]⟩)).alloc (NB (s.extract 0 (sg s)) (s.extract (sg s) (wE s)) ⟨#[]⟩ ⟨#[]⟩))
      case first =>
        by_cases h0 : wE s < s.size
        · have H := hide (hD_int h0)
          go_wp2_with fail
          all_goals go_meet
          all_goals exact two _ _ (by rw [H.out]; try simp [*]) rfl
        · have H := hide (show hD s = false by simp only [hD]; rw [bt_ge (by omega)]; rfl)
          go_wp2_with fail
          go_meet
          case rel => exact ⟨by rw [H.out], rfl⟩
      case rest =>
        obtain ⟨rfl, rfl⟩ := hcut
        go_upto_if 45 with fail
        go_cut [5, 6] (fun i _ wx => i = .int .i64 (fE s) ∧ wx = (w.alloc (NB ⟨#[]⟩ ⟨#[]⟩ ⟨#[]⟩ ⟨#[]⟩)).alloc (NB (s.extract 0 (sg s)) (s.extract (sg s) (wE s)) (s.extract (fB s) (fE s)) ⟨#[]⟩))
        case first =>
          cases h : hD s
          · have H1 := hide (fE_no h)
            have H2 := hide (fB_no h)
            go_wp2_with fail
            go_meet
            case rel => exact ⟨by rw [H1.out], by rw [H1.out, H2.out, extract_self]; rfl⟩
          · have H1 := hide (fE_dot h)
            have H2 := hide (fB_dot h)
            have h3 := hD_lt h
            have h4 := dg_ge s (wE s + 1)
            have h5 := dg_le s (wE s + 1) h3
            go_wp2_with fail
            refine (digits_any _ _ _ hs0 (by omega) (by omega)).mono ?_
            rintro e w' ⟨rfl, rfl⟩
            rw [show ((wE s : Int) + 1).toNat = wE s + 1 by omega]
            go_wp2_with fail
            go_meet
            case rel => exact ⟨by rw [H1.out], by rw [H1.out, H2.out]⟩
        case rest =>
          obtain ⟨rfl, rfl⟩ := hcut
          have b4 := fB_ge s
          have b5 := fE_ge s
          have b6 := fE_le s
          go_upto_region 10 with fail
          go_cut [64] (fun b wx => b = .bool (!okN s) ∧ wx = (w.alloc (NB ⟨#[]⟩ ⟨#[]⟩ ⟨#[]⟩ ⟨#[]⟩)).alloc (NB (s.extract 0 (sg s)) (s.extract (sg s) (wE s)) (s.extract (fB s) (fE s)) ⟨#[]⟩))
          case first =>
            go_wp2_with fail
            all_goals go_meet
            all_goals exact two _ _ (by rw [okN_not_int]; simp [*]) rfl
          case rest =>
            obtain ⟨rfl, rfl⟩ := hcut
            cases ho : okN s
            · have HP := hide (show pSign s = ⟨#[]⟩ ∧ pWhole s = ⟨#[]⟩ ∧ pFrac s = ⟨#[]⟩ ∧ pExp s = ⟨#[]⟩ ∧ pL s = 0 by simp [pSign, pWhole, pFrac, pExp, pL, ho]; rfl)
              go_wp2_with fail
              rw [HP.out.1, HP.out.2.1, HP.out.2.2.1, HP.out.2.2.2.1, HP.out.2.2.2.2]
              exact bodyPost_ret (v := .tuple #[.agg #[.string ⟨#[]⟩, .string ⟨#[]⟩, .string ⟨#[]⟩, .string ⟨#[]⟩], .int .i64 0]) (by simp [results, Try.results6, go_sem]) rfl ⟨rfl, _, _, rfl⟩
            · go_upto_region 12 with fail
              go_cut [81] (fun b wx => b = .bool (isEx (bt s (fE s))) ∧ wx = (w.alloc (NB ⟨#[]⟩ ⟨#[]⟩ ⟨#[]⟩ ⟨#[]⟩)).alloc (NB (s.extract 0 (sg s)) (s.extract (sg s) (wE s)) (s.extract (fB s) (fE s)) ⟨#[]⟩))
              case first =>
                by_cases h0 : fE s < s.size
                · have hb := bt_lt h0
                  have H := hide (show isEx (bt s (fE s)) = (((s[fE s].toNat : Int) == 101) || ((s[fE s].toNat : Int) == 69)) by rw [hb, isEx_int])
                  clear hb
                  go_wp2_with fail
                  all_goals go_meet
                  all_goals exact two _ _ (by rw [H.out]; try simp [*]) rfl
                · have H := hide (show isEx (bt s (fE s)) = false by rw [bt_ge (by omega)]; rfl)
                  go_wp2_with fail
                  go_meet
                  case rel => exact ⟨by rw [H.out], rfl⟩
              case rest =>
                obtain ⟨rfl, rfl⟩ := hcut
                go_upto_if 81 with fail
                go_cut [5, 6, 7] (fun i _ _ wx => i = .int .i64 (pL s) ∧ wx = (w.alloc (NB ⟨#[]⟩ ⟨#[]⟩ ⟨#[]⟩ ⟨#[]⟩)).alloc (NB (s.extract 0 (sg s)) (s.extract (sg s) (wE s)) (s.extract (fB s) (fE s)) (pExp s)))
                case first =>
                  cases hx : isEx (bt s (fE s))
                  · have H := hide (show pExp s = ⟨#[]⟩ ∧ pL s = fE s by simp [pExp, pL, ho, hE, hx]; rfl)
                    go_wp2_with fail
                    go_meet
                    case rel => exact ⟨by rw [H.out.2], by rw [H.out.1]⟩
                  · have h1 : fE s < s.size := lt_of_bt (by rw [isEx_iff] at hx; omega)
                    have h2 := xB_ge s
                    have h3 := xB_le hx
                    have h4 := xE_ge s
                    have h5 := xE_le hx
                    go_upto_region 14 with fail
                    go_cut [99] (fun b wx => b = .bool (isSg (bt s (fE s + 1))) ∧ wx = (w.alloc (NB ⟨#[]⟩ ⟨#[]⟩ ⟨#[]⟩ ⟨#[]⟩)).alloc (NB (s.extract 0 (sg s)) (s.extract (sg s) (wE s)) (s.extract (fB s) (fE s)) ⟨#[]⟩))
                    case first =>
                      by_cases h0 : fE s + 1 < s.size
                      · have hb := bt_lt h0
                        have H := hide (show isSg (bt s (fE s + 1)) = (((s[fE s + 1].toNat : Int) == 43) || ((s[fE s + 1].toNat : Int) == 45)) by rw [hb, isSg_int])
                        clear hb
                        go_wp2_with fail
                        all_goals go_meet
                        all_goals exact two _ _ (by rw [H.out]; try simp [*]) rfl
                      · have H := hide (show isSg (bt s (fE s + 1)) = false by rw [bt_ge (by omega)]; rfl)
                        go_wp2_with fail
                        go_meet
                        case rel => exact ⟨by rw [H.out], rfl⟩
                    case rest =>
                      obtain ⟨rfl, rfl⟩ := hcut
                      go_upto_if 99 with fail
                      go_cut [7] (fun i wx => i = .int .i64 (xB s) ∧ wx = (w.alloc (NB ⟨#[]⟩ ⟨#[]⟩ ⟨#[]⟩ ⟨#[]⟩)).alloc (NB (s.extract 0 (sg s)) (s.extract (sg s) (wE s)) (s.extract (fB s) (fE s)) ⟨#[]⟩))
                      case first =>
                        cases hq : isSg (bt s (fE s + 1))
                        · have H := hide (xB_no hq)
                          go_wp2_with fail
                          go_meet
                          case rel => exact ⟨by rw [H.out]; go_num, rfl⟩
                        · have h7 : fE s + 2 ≤ s.size := by have := xB_sg hq; omega
                          have H := hide (xB_sg hq)
                          go_wp2_with fail
                          go_meet
                          case rel => exact ⟨by rw [H.out]; go_num, rfl⟩
                      case rest =>
                        obtain ⟨rfl, rfl⟩ := hcut
                        go_wp2_with fail
                        refine (digits_any _ _ _ hs0 (by omega) (by omega)).mono ?_
                        rintro e w' ⟨rfl, rfl⟩
                        rw [Int.toNat_natCast, show dg s (xB s) = xE s from rfl]
                        by_cases hl : xB s < xE s
                        · have H := hide (show pExp s = s.extract (fE s + 1) (xE s) ∧ pL s = xE s by simp [pExp, pL, ho, hE, hx, hl])
                          go_wp2_with fail
                          go_meet
                          case rel => exact ⟨by rw [H.out.2], by rw [H.out.1]⟩
                        · have H := hide (show pExp s = ⟨#[]⟩ ∧ pL s = fE s by simp [pExp, pL, ho, hE, hl]; rfl)
                          go_wp2_with fail
                          go_meet
                          case rel => exact ⟨by rw [H.out.2], by rw [H.out.1]⟩
                case rest =>
                  obtain ⟨rfl, rfl⟩ := hcut
                  have HP := hide (show pSign s = s.extract 0 (sg s) ∧ pWhole s = s.extract (sg s) (wE s) ∧ pFrac s = s.extract (fB s) (fE s) by simp [pSign, pWhole, pFrac, ho])
                  go_wp2_with fail
                  rw [HP.out.1, HP.out.2.1, HP.out.2.2]
                  exact bodyPost_ret (v := .tuple #[.agg #[.string (s.extract 0 (sg s)), .string (s.extract (sg s) (wE s)), .string (s.extract (fB s) (fE s)), .string (pExp s)], .int .i64 (pL s)]) (by simp [results, Try.results6, go_sem]) rfl ⟨rfl, _, _, rfl⟩
end Go.Proofs.Qxb6628678a
