/-
  THE WALK of partsRebuild (seat b6628678a).
-/
import Derived.Test.Qxb6628678aWalkA
import Derived.Test.Qxb6628678aCut
import Derived.Deep.DeepCutAuto
import Derived.Deep.CutBlock
namespace Go.Proofs.Qxb6628678a
open Go.RowKit
open Pl

theorem ne_empty {s : ByteArray} (h : 0 < s.size) : s.toList.isEmpty = false := by
  rw [Go.ByteArray.toList_eq]
  have : s.data.size ≠ 0 := by simp only [ByteArray.size] at h; omega
  simp
  intro e; rw [e] at this; simp at this

set_option maxRecDepth 100000 in
set_option maxHeartbeats 1000000 in
theorem rebuild_core (t sign whole frac exp : ByteArray) (l q : Nat) (w : World) (ht : t.size ≤ maxLen) (hl0 : 0 < l) (hl : l ≤ t.size)
    (hsz1 : whole.size ≤ maxLen) (hsz2 : frac.size ≤ maxLen) (hsz3 : exp.size ≤ maxLen)
    (hsg : sign = ⟨#[]⟩ ∨ sign = ⟨#[43]⟩ ∨ sign = ⟨#[45]⟩)
    (hne : whole.toList.isEmpty = true → frac.toList.isEmpty = false)
    (hw : allD whole = true) (hf : allD frac = true)
    (hpl : sign.size + whole.size ≤ q) (hql : q ≤ l)
    (e1 : (t.extract 0 sign.size).toList = sign.toList) (e2 : (t.extract sign.size (sign.size + whole.size)).toList = whole.toList)
    (hdot : (sign.size + whole.size < l ∧ bt t (sign.size + whole.size) = 46 ∧ q = sign.size + whole.size + 1 + frac.size ∧ (t.extract (sign.size + whole.size + 1) q).toList = frac.toList) ∨
      (bt t (sign.size + whole.size) ≠ 46 ∧ q = sign.size + whole.size ∧ frac.toList.isEmpty = true))
    (hexp : (q = l ∧ exp.toList.isEmpty = true) ∨ (q < l ∧ isEx (bt t q) = true ∧ (t.extract (q + 1) l).toList = exp.toList ∧ 0 < exp.size ∧
      ((isSg (bt exp 0) = false ∧ allD exp = true) ∨ (isSg (bt exp 0) = true ∧ 1 < exp.size ∧ allD (exp.extract 1 exp.size) = true)))) :
    Calls Try.prog 10 #[.string t, .string sign, .string whole, .string frac, .string exp, .int .i64 l] w fun e w' => e = .returned (.bool true) ∧ w' = w := by
  have ht0 := ht
  have g1 := hsz1
  have g2 := hsz2
  have g3 := hsz3
  unfold maxLen at ht hsz1 hsz2 hsz3
  have HD := hide hdot
  have HX := hide hexp
  have H1 := hide e1
  have H2 := hide e2
  have HW := hide hw
  have HF := hide hf
  have HN := hide hne
  have HS := hide hsg
  clear hdot hexp e1 e2 hw hf hne hsg
  have hl1 : ((l : Int) == 0) = false := by simp; omega
  go_enter Try.func10, Try.ntmps10
  go_upto_region 3 with fail
  go_cut [1, 42] (fun a b wx => a = .string sign ∧ b = .bool false ∧ w = wx)
  case first =>
    rcases HS.out with hh | hh | hh
    · rw [hh]
      go_wp2_with fail
      go_meet
      case rel => exact ⟨by rw [hh], rfl, rfl⟩
    · rw [hh]
      go_wp2_with fail
      go_meet
      case rel => exact ⟨by rw [hh], rfl, rfl⟩
    · rw [hh]
      go_wp2_with fail
      go_meet
      case rel => exact ⟨by rw [hh], rfl, rfl⟩
  case rest =>
    obtain ⟨rfl, rfl, rfl⟩ := hcut
    clear HS
    go_upto_region 5 with fail
    go_cut [48] (fun b wx => b = .bool false ∧ w = wx)
    case first =>
      go_wp2_with fail
      · go_meet
        case rel => exact ⟨by rw [HN.out (by simp [*])], rfl⟩
      · go_meet
        case rel => exact ⟨rfl, rfl⟩
    case rest =>
      obtain ⟨rfl, rfl⟩ := hcut
      clear HN
      go_wp2_with fail
      refine (allDigits_any _ _ g1).mono ?_
      rintro e w' ⟨rfl, hw⟩
      rw [hw, HW.out]; clear hw w'
      go_wp2_with fail
      refine (allDigits_any _ _ g2).mono ?_
      rintro e w' ⟨rfl, hw⟩
      rw [hw, HF.out]; clear hw w'
      go_upto_region 12 with fail
      go_cut [79] (fun b wx => b = .bool false ∧ w = wx)
      case first =>
        have e1 := H1.out
        have e2 := H2.out
        go_wp2_with fail
        go_meet
        case rel => exact ⟨rfl, rfl⟩
      case rest =>
        obtain ⟨rfl, rfl⟩ := hcut
        clear H1 H2 HW HF
        go_upto_region 15 with fail
        go_cut [89] (fun b wx => b = .bool (decide (sign.size + whole.size < l) && decide (bt t (sign.size + whole.size) = 46)) ∧ w = wx)
        case first =>
          by_cases h0 : sign.size + whole.size < l
          · have hb := hide (bt_lt (show sign.size + whole.size < t.size by omega))
            go_wp2_with fail
            go_meet
            case rel => exact ⟨by rw [hb.out]; congr 1; rw [Bool.eq_iff_iff]; simp [h0]; omega, rfl⟩
          · go_wp2_with fail
            go_meet
            case rel => exact ⟨by simp [h0], rfl⟩
        case rest =>
          obtain ⟨rfl, rfl⟩ := hcut
          go_upto_if 89 with fail
          go_cut [14] (fun i wx => i = .int .i64 q ∧ w = wx)
          case first =>
            rcases HD.out with ⟨h1, h2, h3, h4⟩ | ⟨h1, h2, h3⟩
            · have hd : (decide (sign.size + whole.size < l) && decide (bt t (sign.size + whole.size) = 46)) = true := by simp [h1, h2]
              rw [hd]
              rw [h3] at h4 hql
              have H3 := hide h3
              clear h3 hd
              go_wp2_with fail
              go_meet
              case rel => exact ⟨by rw [H3.out]; go_num, rfl⟩
            · have hd : (decide (sign.size + whole.size < l) && decide (bt t (sign.size + whole.size) = 46)) = false := by simp [h1]
              rw [hd]
              have H3 := hide h2
              clear hd h1 h2
              go_wp2_with fail
              go_meet
              case rel => exact ⟨by rw [H3.out]; go_num, rfl⟩
          case rest =>
            obtain ⟨rfl, rfl⟩ := hcut
            clear HD
            rcases HX.out with ⟨h1, h2⟩ | ⟨h1, h2, h3, h4, h5⟩
            · have h1' : ((q : Int) == (l : Int)) = true := by simp; omega
              clear h1
              go_wp2_with fail
              go_ret
              exact ⟨rfl, rfl⟩
            · have h1' : ((q : Int) == (l : Int)) = false := by simp; omega
              have HX2 := hide h2
              have H5 := hide h5
              clear h2 h5 HX
              go_upto_region 25 with fail
              go_cut [121] (fun b wx => b = .bool false ∧ w = wx)
              case first =>
                have hb := hide (bt_lt (show q < t.size by omega))
                have HB := hide (isEx_int (bt t q))
                go_wp2_with fail
                · go_meet
                  case rel => exact ⟨rfl, rfl⟩
                · go_meet
                  case rel => exact ⟨by rw [show ((t[q].toNat : Int) != 101 && (t[q].toNat : Int) != 69) = false by (have a := HB.out; rw [HX2.out, hb.out] at a; simp only [bne, ← Bool.not_or, ← a]; rfl)], rfl⟩
              case rest =>
                obtain ⟨rfl, rfl⟩ := hcut
                go_upto_region 30 with fail
                go_cut [142] (fun b wx => b = .bool (isSg (bt exp 0)) ∧ w = wx)
                case first =>
                  have hb := hide (bt_lt h4)
                  have HB := hide (isSg_int (bt exp 0))
                  go_wp2_with fail
                  all_goals go_meet
                  all_goals exact ⟨by rw [HB.out, hb.out]; try simp [*], rfl⟩
                case rest =>
                  obtain ⟨rfl, rfl⟩ := hcut
                  rcases H5.out with ⟨h6, h7⟩ | ⟨h6, h7, h8⟩
                  · rw [h6]
                    have h8 : exp.toList.isEmpty = false := ne_empty h4
                    go_wp2_with fail
                    refine (allDigits_any _ _ g3).mono ?_
                    rintro e w' ⟨rfl, hw⟩
                    rw [hw, h7]; clear hw w'
                    go_wp2_with fail
                    go_ret
                    exact ⟨rfl, rfl⟩
                  · rw [h6]
                    have h9 : (exp.extract 1 exp.size).toList.isEmpty = false := ne_empty (by rw [size_extract _ _ _ (Nat.le_refl _)]; omega)
                    go_wp2_with fail
                    refine (allDigits_any _ _ (by rw [size_extract _ _ _ (Nat.le_refl _)]; unfold maxLen; omega)).mono ?_
                    rintro e w' ⟨rfl, hw⟩
                    rw [hw, h8]; clear hw w'
                    go_wp2_with fail
                    go_ret
                    exact ⟨rfl, rfl⟩

end Go.Proofs.Qxb6628678a
