/-
  WALKS of seat b6628757a: postgresCommentEnd, its shim, the two bounds.
-/
import Derived.Test.Qxb6628757aRows
import Derived.Test.Qxb6628757aPlain
import Derived.WalkKit
import Derived.WalkSpells
import Derived.WalkLawsBesides
import Derived.Deep.DeepCutAuto
namespace Go.Proofs.Qxb6628757a
open Go.RowKit
open Pl

theorem hide {p : Prop} (h : p) : Hid p := h
theorem ret_int {k : IntKind} {a b : Int} (h : a = b) : Ending.returned (.int k a) = .returned (.int k b) := by rw [h]
theorem ret_bool {a b : Bool} (h : a = b) : Ending.returned (.bool a) = .returned (.bool b) := by rw [h]
theorem ret_ib {a b : Nat × Bool} (h : a = b) : Ending.returned (.tuple #[.int .i64 a.1, .bool a.2]) = .returned (.tuple #[.int .i64 b.1, .bool b.2]) := by rw [h]

theorem two_bytes {s : ByteArray} {k : Nat} (h : k + 1 < s.size) : (s.extract k (k + 2)).toList = [s[k], s[k + 1]] := by
  have hd : k + 1 < s.data.size := h
  rw [Go.ByteArray.toList_eq, ByteArray.data_extract]
  apply List.ext_getElem
  · simp; omega
  · intro i h1 h2
    simp at h2
    obtain rfl | rfl : i = 0 ∨ i = 1 := by omega
    · simp [ByteArray.getElem_eq_getElem_data]
    · simp [ByteArray.getElem_eq_getElem_data]
theorem u8_eq {x : UInt8} {n : Nat} (hn : n < 256) : (x == UInt8.ofNat n) = decide (x.toNat = n) := by
  rw [Bool.eq_iff_iff]
  simp only [beq_iff_eq, decide_eq_true_iff]
  constructor
  · rintro rfl; simp; omega
  · intro h; apply UInt8.toNat_inj.1; rw [h]; simp; omega
theorem cl_two {s : ByteArray} {k : Nat} (h : k + 1 < s.size) : ((s.extract k (k + 2)).toList == [42, 47]) = cl s k := by
  rw [two_bytes h, cl, bt_lt h, bt_lt (show k < s.size by omega)]
  show (_ == UInt8.ofNat 42 && (_ == UInt8.ofNat 47 && true)) = _
  rw [u8_eq (by omega), u8_eq (by omega), Bool.and_true]
theorem op_two {s : ByteArray} {k : Nat} (h : k + 1 < s.size) : ((s.extract k (k + 2)).toList == [47, 42]) = op s k := by
  rw [two_bytes h, op, bt_lt h, bt_lt (show k < s.size by omega)]
  show (_ == UInt8.ofNat 47 && (_ == UInt8.ofNat 42 && true)) = _
  rw [u8_eq (by omega), u8_eq (by omega), Bool.and_true]

set_option maxHeartbeats 400000 in
theorem end_any (s : ByteArray) (i : Nat) (w : World) (hs : s.size ≤ 1000000) (hi : i ≤ s.size) :
    Calls Try.prog 9 #[.string s, .int .i64 i] w fun e w' => e = .returned (.tuple #[.int .i64 (sc s i 0).1, .bool (sc s i 0).2]) ∧ w' = w := by
  go_enter Try.func9, Try.ntmps9
  go_wp2_with fail
  go_loopg [1, 6] (s.size - i) (fun g a b wx => w = wx ∧ ∃ k d : Nat, k ≤ s.size ∧ d ≤ k ∧ g = s.size - k ∧ a = .int .i64 k ∧ b = .int .i64 d ∧ sc s k d = sc s i 0)
  case atStart => exact ⟨rfl, i, 0, hi, by omega, rfl, rfl, rfl, rfl⟩
  case round =>
    obtain ⟨rfl, k, d, hk, hd, hg, rfl, rfl, he⟩ := hrel
    have HG := hide hg
    have HE := hide he
    clear hg he
    by_cases hlt : k + 1 < s.size
    · cases hc : cl s k
      · have h1 : ((s.extract k (k + 2)).toList == [42, 47]) = false := by rw [cl_two hlt, hc]
        cases ho : op s k
        · have h2 : ((s.extract k (k + 2)).toList == [47, 42]) = false := by rw [op_two hlt, ho]
          have H := hide (sc_step (d := d) hlt hc ho)
          clear hc ho
          go_wp2_with fail
          go_roundg (s.size - (k + 1))
          case measure => rw [HG.out]; omega
          case rel => exact ⟨rfl, k + 1, d, by omega, by omega, rfl, by go_num, rfl, by rw [← H.out, HE.out]⟩
        · have h2 : ((s.extract k (k + 2)).toList == [47, 42]) = true := by rw [op_two hlt, ho]
          have H := hide (sc_open (d := d) hlt ho)
          clear hc ho
          go_wp2_with fail
          go_roundg (s.size - (k + 2))
          case measure => rw [HG.out]; omega
          case rel => exact ⟨rfl, k + 2, d + 1, by omega, by omega, rfl, by go_num, by go_num, by rw [← H.out, HE.out]⟩
      · have h1 : ((s.extract k (k + 2)).toList == [42, 47]) = true := by rw [cl_two hlt, hc]
        cases d with
        | zero =>
          have H := hide (sc_close0 hlt hc)
          clear hc
          go_wp2_with fail
          go_ret2
          exact ⟨by rw [← HE.out, H.out]; go_num, rfl⟩
        | succ d =>
          have H := hide (sc_close (d := d) hlt hc)
          have hz : (((d + 1 : Nat) : Int) == 0) = false := by simp; omega
          clear hc
          go_wp2_with fail
          go_roundg (s.size - (k + 2))
          case measure => rw [HG.out]; omega
          case rel => exact ⟨rfl, k + 2, d, by omega, by omega, rfl, by go_num, by go_num, by rw [← H.out, HE.out]⟩
    · have H := hide (sc_end (d := d) (show s.size ≤ k + 1 by omega))
      go_wp2_with fail
      go_ret2
      exact ⟨by rw [← HE.out, H.out]; rfl, rfl⟩

set_option maxHeartbeats 400000 in
theorem zend_any (s : ByteArray) (i : Nat) (w : World) (hs : s.size ≤ 1000000) (hi : i ≤ s.size) :
    Calls Try.prog 6 #[.string s, .int .i64 i] w fun e w' => e = .returned (.tuple #[.int .i64 (sc s i 0).1, .bool (sc s i 0).2]) ∧ w' = w := by
  go_enter Try.func6, Try.ntmps6
  go_wp2_with fail
  refine (end_any s i _ hs hi).mono ?_
  rintro e w' ⟨rfl, hw⟩
  rw [hw]; clear hw w'
  go_wp2_with fail
  go_ret2
  exact ⟨rfl, rfl⟩

set_option maxHeartbeats 400000 in
theorem bytes5_any (s : ByteArray) (i : Int) (w : World) (hs : s.size ≤ maxLen) :
    Calls Try.prog 5 #[.string s, .int .i64 i] w fun e w' => e = .returned (.bool (decide (s.size ≤ 1048576))) ∧ w' = w := by
  unfold maxLen at hs
  go_enter Try.func5, Try.ntmps5
  go_wp2
  all_goals
    go_ret
    exact ⟨ret_bool (by simp; omega), rfl⟩

set_option maxHeartbeats 400000 in
theorem bytes8_any (a b : ByteArray) (i : Int) (w : World) (ha : a.size ≤ maxLen) (hb : b.size ≤ maxLen) :
    Calls Try.prog 8 #[.string a, .string b, .int .i64 i] w fun e w' => e = .returned (.bool (decide (a.size + b.size ≤ 1048576))) ∧ w' = w := by
  unfold maxLen at ha hb
  go_enter Try.func8, Try.ntmps8
  go_wp2
  all_goals
    go_ret
    exact ⟨ret_bool (by simp; omega), rfl⟩

end Go.Proofs.Qxb6628757a
