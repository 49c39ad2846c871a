/-
  partsRebuild of what LeadingNumeral gives: true (seat b6628678a).
-/
import Derived.Test.Qxb6628678aWalkD
namespace Go.Proofs.Qxb6628678a
open Go.RowKit
open Pl

set_option maxRecDepth 100000 in
set_option maxHeartbeats 400000 in
theorem rebuild_none (t : ByteArray) (w : World) :
    Calls Try.prog 10 #[.string t, .string ⟨#[]⟩, .string ⟨#[]⟩, .string ⟨#[]⟩, .string ⟨#[]⟩, .int .i64 0] w fun e w' => e = .returned (.bool true) ∧ w' = w := by
  go_enter Try.func10, Try.ntmps10
  go_wp2_with fail
  go_ret
  exact ⟨rfl, rfl⟩

theorem allD_part {s : ByteArray} {a b : Nat} (hb : b ≤ s.size) (h : ∀ j, a ≤ j → j < b → isD (bt s j) = true) : allD (s.extract a b) = true := by
  simp [allD, dg_part hb h]
theorem empty_part (s : ByteArray) (a b : Nat) (h : b ≤ a) (hb : b ≤ s.size) : (s.extract a b).toList.isEmpty = true := by
  rw [Go.ByteArray.toList_eq]
  have := size_extract s a b hb
  simp only [ByteArray.size] at this
  simp only [List.isEmpty_iff, Array.toList_eq_nil_iff, ← Array.size_eq_zero_iff]
  omega

theorem rebuild_any (t : ByteArray) (w : World) (ht : t.size ≤ maxLen) :
    Calls Try.prog 10 #[.string t, .string (pSign t), .string (pWhole t), .string (pFrac t), .string (pExp t), .int .i64 (pL t)] w fun e w' => e = .returned (.bool true) ∧ w' = w := by
  cases h : okN t
  · have e := all_none h
    have e1 : pSign t = ⟨#[]⟩ := (congrArg Kept.bs e).symm
    have e2 : pWhole t = ⟨#[]⟩ := (congrArg Kept.bw e).symm
    have e3 : pFrac t = ⟨#[]⟩ := (congrArg Kept.bf e).symm
    have e4 : pExp t = ⟨#[]⟩ := (congrArg Kept.be e).symm
    have e5 : pL t = 0 := (congrArg Kept.best e).symm
    rw [e1, e2, e3, e4, e5]
    exact rebuild_none t w
  · have a0 := sg_le t
    have a1 := wE_ge t
    have a2 := wE_le t
    have a3 := fB_ge t
    have a4 := fE_ge t
    have a5 := fE_le t
    have a6 := fE_pos h
    have a7 := fE_le_pL h
    have a8 := pL_le t
    have s1 := size_extract t 0 (sg t) (by omega)
    have s2 := size_extract t (sg t) (wE t) (by omega)
    have s3 := size_extract t (fB t) (fE t) (by omega)
    have e1 : pSign t = t.extract 0 (sg t) := by simp [pSign, h]
    have e2 : pWhole t = t.extract (sg t) (wE t) := by simp [pWhole, h]
    have e3 : pFrac t = t.extract (fB t) (fE t) := by simp [pFrac, h]
    have r1 : (t.extract 0 (sg t)).size = sg t := by omega
    have r2 : (t.extract 0 (sg t)).size + (t.extract (sg t) (wE t)).size = wE t := by omega
    have hexp : (fE t = pL t ∧ (pExp t).toList.isEmpty = true) ∨ (fE t < pL t ∧ isEx (bt t (fE t)) = true ∧ (t.extract (fE t + 1) (pL t)).toList = (pExp t).toList ∧ 0 < (pExp t).size ∧
      ((isSg (bt (pExp t) 0) = false ∧ allD (pExp t) = true) ∨ (isSg (bt (pExp t) 0) = true ∧ 1 < (pExp t).size ∧ allD ((pExp t).extract 1 (pExp t).size) = true))) := by
      cases d : hE t
      · have q1 : pL t = fE t := by simp [pL, h, d]
        have q2 : pExp t = ⟨#[]⟩ := by simp [pExp, h, d]; rfl
        exact Or.inl ⟨q1.symm, by rw [q2]; simp⟩
      · have q1 : pL t = xE t := by simp [pL, h, d]
        have q2 : pExp t = t.extract (fE t + 1) (xE t) := by simp [pExp, h, d]
        simp only [hE, Bool.and_eq_true, decide_eq_true_iff] at d
        have b1 := xB_ge t
        have b2 := xE_le d.1
        have s4 := size_extract t (fE t + 1) (xE t) b2
        have g := dg_DG t (xB t)
        have sgb : bt (t.extract (fE t + 1) (xE t)) 0 = bt t (fE t + 1) := by rw [bt_extract b2 (by omega), Nat.add_zero]
        rw [q1, q2]
        refine Or.inr ⟨by omega, d.1, rfl, by omega, ?_⟩
        rw [sgb]
        cases c : isSg (bt t (fE t + 1))
        · left
          refine ⟨rfl, allD_part b2 fun j x y => g.run j ?_ y⟩
          rw [xB_no c]; exact x
        · right
          have z := xB_sg c
          refine ⟨rfl, by omega, ?_⟩
          rw [ByteArray.extract_extract, s4, show fE t + 1 + 1 = xB t by omega, show min (fE t + 1 + (xE t - (fE t + 1))) (xE t) = xE t by omega]
          exact allD_part b2 g.run
    have s5 : (pExp t).size ≤ maxLen := by
      rcases hexp with x | x
      · have y := x.2
        rw [Go.ByteArray.toList_eq] at y
        simp only [List.isEmpty_iff, Array.toList_eq_nil_iff, ← Array.size_eq_zero_iff] at y
        simp only [ByteArray.size, y]; exact Nat.zero_le _
      · have y := congrArg List.length x.2.2.1
        rw [Go.ByteArray.toList_eq, Go.ByteArray.toList_eq, Array.length_toList, Array.length_toList] at y
        have z := size_extract t (fE t + 1) (pL t) a8
        have u1 : t.size = t.data.size := rfl
        have u2 : (pExp t).size = (pExp t).data.size := rfl
        have u3 : (t.extract (fE t + 1) (pL t)).size = (t.extract (fE t + 1) (pL t)).data.size := rfl
        omega
    rw [e1, e2, e3]
    refine rebuild_core t _ _ _ _ (pL t) (fE t) w ht (by omega) a8 (by omega) (by omega) s5 (sign_shape t) ?_ (allD_part a2 (dg_DG t (sg t)).run) ?_ (by omega) a7 ?_ ?_ ?_ hexp
    · intro x
      by_cases y : fB t < fE t
      · exact ne_empty (by omega)
      · have z : sg t < wE t := by simp [okN] at h; omega
        rw [ne_empty (by omega)] at x; cases x
    · cases d : hD t
      · rw [fB_no d, fE_no d]; exact allD_part (by omega) fun j x y => by omega
      · rw [fB_dot d, fE_dot d]; exact allD_part (by rw [← fE_dot d]; omega) (dg_DG t _).run
    · rw [r1]
    · rw [r2, r1]
    · rw [r2]
      cases d : hD t
      · right
        refine ⟨by simpa [hD] using d, fE_no d, ?_⟩
        rw [fB_no d, fE_no d]; exact empty_part _ _ _ (Nat.le_refl _) a2
      · left
        have z := fB_dot d
        refine ⟨by omega, by simpa [hD] using d, by omega, ?_⟩
        rw [← z]

end Go.Proofs.Qxb6628678a
