/-
  WALKS of seat b6628678a: isDigit, digits, allDigits, the two bounds.
-/
import Derived.Test.Qxb6628678aRows
import Derived.Test.Qxb6628678aPlain
import Derived.WalkKit
import Derived.WalkSpells
import Derived.WalkLawsBesides
namespace Go.Proofs.Qxb6628678a
open Go.RowKit
open Pl

theorem hide {p : Prop} (h : p) : Hid p := h
theorem ret_int {k : IntKind} {a b : Int} (h : a = b) : Ending.returned (.int k a) = .returned (.int k b) := by rw [h]
theorem ret_bool {a b : Bool} (h : a = b) : Ending.returned (.bool a) = .returned (.bool b) := by rw [h]

set_option maxHeartbeats 400000 in
theorem isDigit_any (c : Int) (w : World) (hc : 0 ≤ c) :
    Calls Try.prog 9 #[.int .u8 c] w fun e w' => e = .returned (.bool (isD c.toNat)) ∧ w' = w := by
  go_enter Try.func9, Try.ntmps9
  go_wp2
  · go_ret
    refine ⟨ret_bool ?_, rfl⟩
    simp [isD]; omega
  · go_ret
    refine ⟨ret_bool ?_, rfl⟩
    simp [isD]; omega

set_option maxHeartbeats 400000 in
theorem digits_any (s : ByteArray) (i : Int) (w : World) (hs : s.size ≤ maxLen) (h0 : 0 ≤ i) (hi : i ≤ s.size) :
    Calls Try.prog 11 #[.string s, .int .i64 i] w fun e w' => e = .returned (.int .i64 (dg s i.toNat)) ∧ w' = w := by
  obtain ⟨n, rfl⟩ := Int.eq_ofNat_of_zero_le h0
  rw [Int.toNat_natCast]
  unfold maxLen at hs
  go_enter Try.func11, Try.ntmps11
  go_wp2
  go_loop [1] (fun i => ∃ k : Nat, n ≤ k ∧ k ≤ dg s n ∧ k ≤ s.size ∧ i = .int .i64 k) (fun i => s.size - (intOf i).toNat)
  case atStart => exact ⟨n, Nat.le_refl _, dg_ge _ _, by omega, rfl⟩
  case round =>
    obtain ⟨k, h1, h2, hk, rfl⟩ := hrel
    by_cases hlt : k < s.size
    · have hb := bt_lt hlt
      by_cases hd : isD (bt s k) = true
      · have hd' := isD_iff.1 hd
        have g1 : 48 ≤ (s[k].toNat : Int) := by omega
        have g2 : (s[k].toNat : Int) ≤ 57 := by omega
        have h3 := dg_in h1 h2 hd
        clear hb hd hd' h2
        go_wp2
        go_round
        case rel => exact ⟨k + 1, by omega, by omega, by omega, by go_num⟩
        case measure => simp [intOf]; omega
      · have hd' := Bool.eq_false_iff.2 hd
        have h3 := dg_at h1 h2 hd'
        have h4 := isD_not.1 hd'
        have H3 : Hid (k = dg s n) := h3
        clear h3 hd hd' h2
        rw [hb] at h4
        clear hb
        rcases h4 with h4 | h4
        · have g1 : (s[k].toNat : Int) < 48 := by omega
          go_wp2
          go_ret
          exact ⟨ret_int (by rw [← H3.out]), rfl⟩
        · have g1 : 57 < (s[k].toNat : Int) := by omega
          go_wp2
          go_ret
          exact ⟨ret_int (by rw [← H3.out]), rfl⟩
    · have h3 := dg_at h1 h2 (by rw [bt_ge (by omega)]; rfl)
      have H3 : Hid (k = dg s n) := h3
      clear h3
      go_wp2
      go_ret
      exact ⟨ret_int (by rw [← H3.out]), rfl⟩

/-- Every byte is a digit. -/
def allD (s : ByteArray) : Bool := decide (dg s 0 = s.size)

set_option maxHeartbeats 400000 in
theorem allDigits_any (s : ByteArray) (w : World) (hs : s.size ≤ maxLen) :
    Calls Try.prog 12 #[.string s] w fun e w' => e = .returned (.bool (allD s)) ∧ w' = w := by
  unfold maxLen at hs
  have hle := dg_le s 0 (Nat.zero_le _)
  go_enter Try.func12, Try.ntmps12
  go_wp2
  go_loop [3] (fun i => ∃ k : Nat, k ≤ dg s 0 ∧ k ≤ s.size ∧ i = .int .i64 k) (fun i => s.size - (intOf i).toNat)
  case atStart => exact ⟨0, Nat.zero_le _, Nat.zero_le _, rfl⟩
  case round =>
    obtain ⟨k, h2, hk, rfl⟩ := hrel
    by_cases hlt : k < s.size
    · have hb := bt_lt hlt
      cases hd : isD (bt s k)
      · have h3 := dg_at (Nat.zero_le _) h2 hd
        have H3 : Hid (k = dg s 0) := h3
        have HD : Hid (isD (s[k].toNat) = false) := by rw [← hb]; exact hd
        clear h3 hd h2 hle hb
        go_wp2_with (go_at_call 9; refine (isDigit_any _ _ (by omega)).mono ?_; rintro e w' ⟨rfl, rfl⟩; rw [Int.toNat_natCast, HD.out])
        go_ret
        exact ⟨ret_bool (by simp [allD, ← H3.out]; omega), rfl⟩
      · have h3 := dg_in (Nat.zero_le _) h2 hd
        have HD : Hid (isD (s[k].toNat) = true) := by rw [← hb]; exact hd
        clear hd h2 hle hb
        go_wp2_with (go_at_call 9; refine (isDigit_any _ _ (by omega)).mono ?_; rintro e w' ⟨rfl, rfl⟩; rw [Int.toNat_natCast, HD.out])
        go_round
        case rel => exact ⟨k + 1, by omega, by omega, by go_num⟩
        case measure => simp [intOf]; omega
    · go_wp2
      go_ret
      exact ⟨ret_bool (by simp [allD]; omega), rfl⟩

set_option maxHeartbeats 400000 in
theorem bytes5_any (s : ByteArray) (w : World) (hs : s.size ≤ maxLen) :
    Calls Try.prog 5 #[.string s] w fun e w' => e = .returned (.bool (decide (s.size ≤ 1048576))) ∧ w' = w := by
  unfold maxLen at hs
  go_enter Try.func5, Try.ntmps5
  go_wp2
  all_goals
    go_ret
    exact ⟨ret_bool (by simp; omega), rfl⟩

set_option maxHeartbeats 400000 in
theorem bytes8_any (s : ByteArray) (k : Int) (w : World) (hs : s.size ≤ maxLen) :
    Calls Try.prog 8 #[.string s, .int .i64 k] w fun e w' => e = .returned (.bool (decide (s.size ≤ 1048576))) ∧ w' = w := by
  unfold maxLen at hs
  go_enter Try.func8, Try.ntmps8
  go_wp2
  all_goals
    go_ret
    exact ⟨ret_bool (by simp; omega), rfl⟩

end Go.Proofs.Qxb6628678a
