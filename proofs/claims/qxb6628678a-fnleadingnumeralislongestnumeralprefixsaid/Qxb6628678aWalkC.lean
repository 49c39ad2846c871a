/-
  THE WALK of leadModel (seat b6628678a).
-/
import Derived.Test.Qxb6628678aWalkA
import Derived.Deep.DeepCutAuto
import Derived.Test.Qxb6628678aAutoB
import Derived.Deep.CutBlock
namespace Go.Proofs.Qxb6628678a
open Go.RowKit
open Pl

theorem nxv {a b : Int} {x y : World} (h : a = b) (k : x = y) : Value.int .i64 a = .int .i64 b ∧ x = y := ⟨by rw [h], k⟩

set_option maxRecDepth 100000 in
set_option maxHeartbeats 1000000 in
theorem model_any (s : ByteArray) (w : World) (hs : s.size ≤ maxLen) :
    Calls Try.prog 7 #[.string s] w fun e w' => e = .returned (.tuple #[.string (pSign s), .string (pWhole s), .string (pFrac s), .string (pExp s), .int .i64 (pL s)]) ∧ w' = w := by
  have hs0 := hs
  unfold maxLen at hs
  go_enter Try.func7, Try.ntmps7
  go_wp2_with fail
  go_loopg [7, 8, 9, 10, 11, 12, 13, 14, 15, 16] s.size (fun g s7 s8 s9 s10 s11 s12 s13 s14 s15 s16 wx => w = wx ∧ ∃ (q j sl : Nat) (dot epos : Int) (k : Kept), j ≤ s.size ∧ g = s.size - j ∧ s7 = .int .i64 q ∧ s8 = .int .i64 sl ∧ s9 = .int .i64 dot ∧ s10 = .int .i64 epos ∧ s11 = .int .i64 k.best ∧ s12 = .string k.bs ∧ s13 = .string k.bw ∧ s14 = .string k.bf ∧ s15 = .string k.be ∧ s16 = .int .i64 j ∧ Inv s q j sl dot epos k)
  case atStart => exact ⟨rfl, 0, 0, 0, -1, -1, kNone, by omega, by omega, rfl, rfl, rfl, rfl, rfl, rfl, rfl, rfl, rfl, rfl, Inv.start s⟩
  case round =>
    obtain ⟨rfl, q, j, sl, dot, epos, k, hj, hg, rfl, rfl, rfl, rfl, rfl, rfl, rfl, rfl, rfl, rfl, hI⟩ := hrel
    by_cases hlt : j < s.size
    · have hN := hI.next
      have hq := hI.q_le
      have HI := hide hI
      have HG := hide hg
      clear hI hg
      have HB := hide (bt_lt hlt)
      go_wp2_with fail
      refine (isDigit_any _ _ (by omega)).mono ?_
      rintro e w' ⟨rfl, hw⟩
      rw [hw]; clear hw w'
      rw [Int.toNat_natCast, ← HB.out]
      go_upto_region 11 with fail
      go_cut [17, 18, 19] (fun a b c wx => a = .int .u8 (bt s j) ∧ b = .bool (isD (bt s j)) ∧ c = .bool (isSg (bt s j)) ∧ w = wx)
      case first =>
        have H := hide (isSg_int (bt s j))
        go_wp2_with fail
        all_goals go_meet
        all_goals exact ⟨by first | rfl | simp [*], by first | rfl | simp [*], by rw [H.out]; try simp [*], rfl⟩
      case rest =>
        obtain ⟨rfl, rfl, rfl, rfl⟩ := hcut
        go_upto_region 12 with fail
        go_cut [17, 18, 19, 20] (fun a b d c wx => a = .int .u8 (bt s j) ∧ b = .bool (isD (bt s j)) ∧ d = .bool (isSg (bt s j)) ∧ c = .bool (isEx (bt s j)) ∧ w = wx)
        case first =>
          have H := hide (isEx_int (bt s j))
          go_wp2_with fail
          all_goals go_meet
          all_goals exact ⟨by first | rfl | simp [*], by first | rfl | simp [*], by first | rfl | simp [*], by rw [H.out]; try simp [*], rfl⟩
        case rest =>
          obtain ⟨rfl, rfl, rfl, rfl, rfl⟩ := hcut
          have hP := isP_int (bt s j)
          go_upto_block 2 with fail
          go_cut [21] (fun c wx => c = .int .i64 (nx q (bt s j)) ∧ w = wx)
          case first =>
            clear hN
            obtain rfl | rfl | rfl | rfl | rfl | rfl | rfl | rfl | rfl : q = 0 ∨ q = 1 ∨ q = 2 ∨ q = 3 ∨ q = 4 ∨ q = 5 ∨ q = 6 ∨ q = 7 ∨ q = 8 := by omega
            all_goals as_aux_lemma =>
              go_wp2_with fail
              all_goals go_meet
              all_goals exact nxv (by simp [nx, *]) rfl
          case rest =>
            obtain ⟨rfl, rfl⟩ := hcut
            clear hP
            rcases hN with ⟨hn, hk⟩ | ⟨hn, hc, hv⟩ | ⟨hn, hc, h1, h2, hv⟩ | ⟨hn, hc, hv⟩ | ⟨hn, hc, h1, h2, h3, hv⟩ | ⟨hn, hc, h1, h2, h3, hv⟩ | ⟨hn, hc, hv⟩ | ⟨hn, hc, hv⟩ | ⟨hn, hc, h1, h2, h3, h4, hv⟩
            all_goals (rw [hn]; clear hn)
            · as_aux_lemma => -- no step: the loop is left
              have H := hide (show k.best = pL s ∧ k.bs = pSign s ∧ k.bw = pWhole s ∧ k.bf = pFrac s ∧ k.be = pExp s by rw [hk]; exact ⟨rfl, rfl, rfl, rfl, rfl⟩)
              clear hk
              go_wp2_with fail
              rw [H.out.1, H.out.2.1, H.out.2.2.1, H.out.2.2.2.1, H.out.2.2.2.2]
              exact bodyPost_ret (v := .tuple #[.string (pSign s), .string (pWhole s), .string (pFrac s), .string (pExp s), .int .i64 (pL s)]) (by simp [results, Try.results7, go_sem]) rfl ⟨rfl, rfl⟩
            · as_aux_lemma => -- to 1
              have hv' := hide hv
              clear hv
              have hc' : ((bt s j : Int) == 46) = false := by simp; omega
              clear hc
              go_wp2_with fail
              go_roundg (s.size - (j + 1))
              case measure => rw [HG.out]; omega
              case rel => exact ⟨rfl, 1, j + 1, 1, dot, epos, k, by omega, rfl, by go_num, by go_num, rfl, rfl, rfl, rfl, rfl, rfl, rfl, by go_num, hv'.out⟩
            · as_aux_lemma => -- to 2
              subst h1
              have hv' := hide hv
              clear hv
              have hc' : ((bt s j : Int) == 46) = false := by simp; omega
              clear hc
              go_wp2_with fail
              go_roundg (s.size - (j + 1))
              case measure => rw [HG.out]; omega
              case rel => exact ⟨rfl, 2, j + 1, sg s, dot, epos, kWhole s (j + 1), by omega, rfl, by go_num, by go_num, rfl, rfl, by go_num, rfl, by go_num, rfl, rfl, by go_num, hv'.out⟩
            · as_aux_lemma => -- to 3
              have hv' := hide hv
              clear hv
              have hc' : ((bt s j : Int) == 46) = true := by simp; omega
              clear hc
              go_wp2_with fail
              go_roundg (s.size - (j + 1))
              case measure => rw [HG.out]; omega
              case rel => exact ⟨rfl, 3, j + 1, sl, j, epos, k, by omega, rfl, by go_num, by go_num, rfl, rfl, rfl, rfl, rfl, rfl, rfl, by go_num, hv'.out⟩
            · as_aux_lemma => -- to 4
              subst h1
              have hv' := hide hv
              have h3' := hide h3
              clear hv h3
              have hc' : ((bt s j : Int) == 46) = true := by simp; omega
              clear hc
              go_wp2_with fail
              go_roundg (s.size - (j + 1))
              case measure => rw [HG.out]; omega
              case rel => exact ⟨rfl, 4, j + 1, sg s, j, epos, kDot s, by omega, rfl, by go_num, by go_num, rfl, rfl, by simp only [kDot, ← h3'.out]; go_num, rfl, by simp only [kDot, ← h3'.out], rfl, rfl, by go_num, hv'.out⟩
            · as_aux_lemma => -- to 5
              subst h1 h2
              have hv' := hide hv
              clear hv
              have g1 := wE_ge s
              have g2 := wE_le s
              have hc' : ((bt s j : Int) == 46) = false := by simp; omega
              clear hc
              go_wp2_with fail
              go_roundg (s.size - (j + 1))
              case measure => rw [HG.out]; omega
              case rel => exact ⟨rfl, 5, j + 1, sg s, wE s, epos, kFrac s (j + 1), by omega, rfl, by go_num, by go_num, rfl, rfl, by go_num, rfl, rfl, by go_num, rfl, by go_num, hv'.out⟩
            · as_aux_lemma => -- to 6
              have hv' := hide hv
              clear hv
              have hc' : ((bt s j : Int) == 46) = false := by simp; omega
              clear hc
              go_wp2_with fail
              go_roundg (s.size - (j + 1))
              case measure => rw [HG.out]; omega
              case rel => exact ⟨rfl, 6, j + 1, sl, dot, j, k, by omega, rfl, by go_num, by go_num, rfl, rfl, rfl, rfl, rfl, rfl, rfl, by go_num, hv'.out⟩
            · as_aux_lemma => -- to 7
              have hv' := hide hv
              clear hv
              have hc' : ((bt s j : Int) == 46) = false := by simp; omega
              clear hc
              go_wp2_with fail
              go_roundg (s.size - (j + 1))
              case measure => rw [HG.out]; omega
              case rel => exact ⟨rfl, 7, j + 1, sl, dot, epos, k, by omega, rfl, by go_num, by go_num, rfl, rfl, rfl, rfl, rfl, rfl, rfl, by go_num, hv'.out⟩
            · as_aux_lemma => -- to 8
              subst h1 h3
              have g1 := wE_ge s
              have g2 := wE_le s
              have g3 := fE_ge s
              have g4 := fE_le s
              have g5 := fB_ge s
              have hc' : ((bt s j : Int) == 46) = false := by simp; omega
              clear hc
              cases hd : hD s
              · rw [dotI_no hd] at h2
                subst h2
                have hv' := hide hv
                have e1 := hide (fE_no hd)
                have e2 := hide (fB_no hd)
                clear hv hd
                go_wp2_with fail
                go_roundg (s.size - (j + 1))
                case measure => rw [HG.out]; omega
                case rel => exact ⟨rfl, 8, j + 1, sg s, -1, fE s, kExp s (j + 1), by omega, rfl, by go_num, by go_num, rfl, rfl, by go_num, rfl, by simp only [kExp, e1.out], by simp only [kExp, e1.out, e2.out, extract_self]; rfl, by go_num, by go_num, hv'.out⟩
              · rw [dotI_dot hd] at h2
                subst h2
                have hv' := hide hv
                have e2 := hide (fB_dot hd)
                have g6 : wE s + 1 ≤ fE s := by rw [fB_dot hd] at g3; exact g3
                clear hv hd
                go_wp2_with fail
                go_roundg (s.size - (j + 1))
                case measure => rw [HG.out]; omega
                case rel => exact ⟨rfl, 8, j + 1, sg s, wE s, fE s, kExp s (j + 1), by omega, rfl, by go_num, by go_num, rfl, rfl, by go_num, rfl, rfl, by simp only [kExp, e2.out], by go_num, by go_num, hv'.out⟩
    · have hK := hI.last (by omega)
      have H := hide (show k.best = pL s ∧ k.bs = pSign s ∧ k.bw = pWhole s ∧ k.bf = pFrac s ∧ k.be = pExp s by rw [hK]; exact ⟨rfl, rfl, rfl, rfl, rfl⟩)
      clear hK hI
      go_wp2_with fail
      rw [H.out.1, H.out.2.1, H.out.2.2.1, H.out.2.2.2.1, H.out.2.2.2.2]
      exact bodyPost_ret (v := .tuple #[.string (pSign s), .string (pWhole s), .string (pFrac s), .string (pExp s), .int .i64 (pL s)]) (by simp [results, Try.results7, go_sem]) rfl ⟨rfl, rfl⟩
end Go.Proofs.Qxb6628678a
