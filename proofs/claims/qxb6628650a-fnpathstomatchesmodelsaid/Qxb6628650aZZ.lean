/-
  The bounds laid by program (seat b6628650a).
-/
import Derived.Test.Qxb6628650aPre
namespace Go.Proofs.Qxb6628650a
open Go.RowKit
set_option linter.unusedVariables false
attribute [local go_sem ↓] Go.wp_at_zero Go.wp_at_succ

def ZPost (n m lt lk : Nat) (lab : Nat → ByteArray) (e : Ending) : Prop := ∃ b : Bool, e = .returned (.bool b) ∧ (b = true → n ≤ 1048576 ∧ m ≤ 1048576 ∧ lt ≤ 1048576 ∧ lk ≤ 1048576 ∧ ∀ i, i < n → (lab i).size ≤ 1048576)
theorem ZPost.no {n m lt lk : Nat} {lab : Nat → ByteArray} {e : Ending} (h : e = .returned (.bool false)) : ZPost n m lt lk lab e := ⟨false, h, fun h => by cases h⟩

set_option maxRecDepth 100000 in
set_option maxHeartbeats 2000000 in
theorem zz16_any (v0 : Value) (a1 a2 a3 : Option Addr) (n m lt lk c1 c2 c3 : Nat) (lab : Nat → ByteArray) (en : Int) (w : World) (h0 : Rd1 w v0 n (fun i => .string (lab i))) (ln : n ≤ 9223372036854775807) (lm : m ≤ 9223372036854775807) (llt : lt ≤ 9223372036854775807) (llk : lk ≤ 9223372036854775807) (hs : ∀ i, i < n → (lab i).size ≤ 9223372036854775807) :
    Calls Try.prog 16 #[v0, .slice a1 m c1, .slice a2 lt c2, .slice a3 lk c3, .int .i64 en] w fun e w' => ZPost n m lt lk lab e ∧ w' = w := by
  obtain ⟨a0, c0, rfl, k0⟩ := h0
  have K := hide k0
  have HS := hide hs
  clear k0 hs
  go_enter Try.func16, Try.ntmps16
  by_cases b0 : n ≤ 1048576
  case neg => go_wp2_with fail; go_ret; exact ⟨.no rfl, rfl⟩
  go_wp2_with fail
  go_loopg [11, 12] n (fun gg t i wr => w = wr ∧ ∃ (k s : Nat), gg = n - k ∧ k ≤ n ∧ t = .int .i64 s ∧ s ≤ 1048576 ∧ i = .int .i64 k ∧ ∀ j, j < k → (lab j).size ≤ 1048576)
  case atStart => exact ⟨rfl, 0, n, by omega, by omega, by go_num, b0, rfl, fun j hj => by omega⟩
  case round =>
    obtain ⟨rfl, k, s, hgg, hk, rfl, hs1, rfl, hall⟩ := hrel
    have HG := hide hgg
    have HA := hide hall
    clear hgg hall
    by_cases hlt : k < n
    · obtain ⟨b, off, rfl, hb, hc⟩ := K.out k hlt
      have hsz := HS.out k hlt
      have i1 : (0 : Int) ≤ (k : Int) := by omega
      have i2 : (k : Int) < (n : Int) := by omega
      have HStep := hide (show (lab k).size ≤ 1048576 → ∀ j, j < k + 1 → (lab j).size ≤ 1048576 from fun hh j hj => by
        by_cases c : j = k
        · rw [c]; exact hh
        · exact HA.out j (by omega))
      generalize lab k = x at *
      by_cases h1 : x.size ≤ 1048576
      · by_cases h2 : s + x.size ≤ 1048576
        · go_wp2_with fail
          go_roundg (n - (k + 1))
          case measure => rw [HG.out]; omega
          case rel => exact ⟨rfl, k + 1, s + x.size, rfl, by omega, by go_num, h2, by go_num, HStep.out h1⟩
        · go_wp2_with fail
          go_ret
          exact ⟨.no rfl, rfl⟩
      · go_wp2_with fail
        go_ret
        exact ⟨.no rfl, rfl⟩
    · obtain rfl : n = k := by omega
      by_cases d1 : m ≤ 1048576
      case neg => go_wp2_with fail; go_ret; exact ⟨.no rfl, rfl⟩
      by_cases d2 : s + m ≤ 1048576
      case neg => go_wp2_with fail; go_ret; exact ⟨.no rfl, rfl⟩
      by_cases d3 : lt ≤ 1048576
      case neg => go_wp2_with fail; go_ret; exact ⟨.no rfl, rfl⟩
      by_cases d4 : s + m + lt ≤ 1048576
      case neg => go_wp2_with fail; go_ret; exact ⟨.no rfl, rfl⟩
      by_cases d5 : lk ≤ 1048576
      case neg => go_wp2_with fail; go_ret; exact ⟨.no rfl, rfl⟩
      by_cases d6 : s + m + lt + lk ≤ 1048576
      case neg => go_wp2_with fail; go_ret; exact ⟨.no rfl, rfl⟩
      go_wp2_with fail
      go_ret
      exact ⟨⟨true, rfl, fun _ => ⟨b0, d1, d3, d5, HA.out⟩⟩, rfl⟩

set_option maxRecDepth 100000 in
set_option maxHeartbeats 2000000 in
theorem zz5_any (v0 : Value) (a1 a2 a3 : Option Addr) (n m lt lk c1 c2 c3 : Nat) (lab : Nat → ByteArray) (en : Int) (w : World) (h0 : Rd1 w v0 n (fun i => .string (lab i))) (ln : n ≤ 9223372036854775807) (lm : m ≤ 9223372036854775807) (llt : lt ≤ 9223372036854775807) (llk : lk ≤ 9223372036854775807) (hs : ∀ i, i < n → (lab i).size ≤ 9223372036854775807) :
    Calls Try.prog 5 #[v0, .slice a1 m c1, .slice a2 lt c2, .slice a3 lk c3, .int .i64 en] w fun e w' => ZPost n m lt lk lab e ∧ w' = w := by
  obtain ⟨a0, c0, rfl, k0⟩ := h0
  have K := hide k0
  have HS := hide hs
  clear k0 hs
  go_enter Try.func5, Try.ntmps5
  by_cases b0 : n ≤ 1048576
  case neg => go_wp2_with fail; go_ret; exact ⟨.no rfl, rfl⟩
  go_wp2_with fail
  go_loopg [11, 12] n (fun gg t i wr => w = wr ∧ ∃ (k s : Nat), gg = n - k ∧ k ≤ n ∧ t = .int .i64 s ∧ s ≤ 1048576 ∧ i = .int .i64 k ∧ ∀ j, j < k → (lab j).size ≤ 1048576)
  case atStart => exact ⟨rfl, 0, n, by omega, by omega, by go_num, b0, rfl, fun j hj => by omega⟩
  case round =>
    obtain ⟨rfl, k, s, hgg, hk, rfl, hs1, rfl, hall⟩ := hrel
    have HG := hide hgg
    have HA := hide hall
    clear hgg hall
    by_cases hlt : k < n
    · obtain ⟨b, off, rfl, hb, hc⟩ := K.out k hlt
      have hsz := HS.out k hlt
      have i1 : (0 : Int) ≤ (k : Int) := by omega
      have i2 : (k : Int) < (n : Int) := by omega
      have HStep := hide (show (lab k).size ≤ 1048576 → ∀ j, j < k + 1 → (lab j).size ≤ 1048576 from fun hh j hj => by
        by_cases c : j = k
        · rw [c]; exact hh
        · exact HA.out j (by omega))
      generalize lab k = x at *
      by_cases h1 : x.size ≤ 1048576
      · by_cases h2 : s + x.size ≤ 1048576
        · go_wp2_with fail
          go_roundg (n - (k + 1))
          case measure => rw [HG.out]; omega
          case rel => exact ⟨rfl, k + 1, s + x.size, rfl, by omega, by go_num, h2, by go_num, HStep.out h1⟩
        · go_wp2_with fail
          go_ret
          exact ⟨.no rfl, rfl⟩
      · go_wp2_with fail
        go_ret
        exact ⟨.no rfl, rfl⟩
    · obtain rfl : n = k := by omega
      by_cases d1 : m ≤ 1048576
      case neg => go_wp2_with fail; go_ret; exact ⟨.no rfl, rfl⟩
      by_cases d2 : s + m ≤ 1048576
      case neg => go_wp2_with fail; go_ret; exact ⟨.no rfl, rfl⟩
      by_cases d3 : lt ≤ 1048576
      case neg => go_wp2_with fail; go_ret; exact ⟨.no rfl, rfl⟩
      by_cases d4 : s + m + lt ≤ 1048576
      case neg => go_wp2_with fail; go_ret; exact ⟨.no rfl, rfl⟩
      by_cases d5 : lk ≤ 1048576
      case neg => go_wp2_with fail; go_ret; exact ⟨.no rfl, rfl⟩
      by_cases d6 : s + m + lt + lk ≤ 1048576
      case neg => go_wp2_with fail; go_ret; exact ⟨.no rfl, rfl⟩
      go_wp2_with fail
      go_ret
      exact ⟨⟨true, rfl, fun _ => ⟨b0, d1, d3, d5, HA.out⟩⟩, rfl⟩
end Go.Proofs.Qxb6628650a
