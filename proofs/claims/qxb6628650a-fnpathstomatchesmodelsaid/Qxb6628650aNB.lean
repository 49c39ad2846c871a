/-
  nodeBefore (seat b6628650a), and the cmp functions behind it.
-/
import Derived.Test.Qxb6628650aSea
namespace Go.Proofs.Qxb6628650a
open Go.RowKit
set_option linter.unusedVariables false
attribute [local go_sem ↓] Go.wp_at_zero Go.wp_at_succ

def sLt (a b : ByteArray) : Bool := Op.bytesLess a.toList b.toList
def sEq (a b : ByteArray) : Bool := a.toList == b.toList
def cmpS (a b : ByteArray) : Int := if sLt a b then -1 else if sEq a b then 0 else 1
def orI (x y : Int) : Int := if x ≠ 0 then x else y
def cmpI (a b : Int) : Int := if a < b then -1 else if b < a then 1 else 0
/-- a sorts before b. -/
def nb (lab : Nat → ByteArray) (a b : Nat) : Bool := sLt (lab a) (lab b) || (sEq (lab a) (lab b) && decide (a < b))

theorem nanS_any (a : ByteArray) (w : World) : Calls Try.prog 31 #[.string a] w fun e w' => e = .returned (.bool false) ∧ w' = w := by
  go_enter Try.func31, Try.ntmps31
  go_wp2_with fail
  go_ret
  exact ⟨rfl, rfl⟩
theorem nanI_any (a : Int) (w : World) : Calls Try.prog 32 #[.int .i64 a] w fun e w' => e = .returned (.bool false) ∧ w' = w := by
  have h : (a != a) = false := by simp
  go_enter Try.func32, Try.ntmps32
  go_wp2_with fail
  go_ret
  exact ⟨rfl, rfl⟩
theorem cmpS_any (a b : ByteArray) (w : World) : Calls Try.prog 26 #[.string a, .string b] w fun e w' => e = .returned (.int .i64 (cmpS a b)) ∧ w' = w := by
  have HC : Hid (cmpS a b = if sLt a b then -1 else if sEq a b then 0 else 1) := hide rfl
  cases hl : Op.bytesLess a.toList b.toList
  · cases he : (a.toList == b.toList)
    · have HV := hide (show cmpS a b = 1 by rw [HC.out]; unfold sLt sEq; rw [hl, he]; rfl)
      clear HC
      go_enter Try.func26, Try.ntmps26
      go_wp2_with fail
      refine (nanS_any _ _).mono ?_
      rintro e w1 ⟨rfl, rfl⟩
      go_wp2_with fail
      refine (nanS_any _ _).mono ?_
      rintro e w2 ⟨rfl, rfl⟩
      go_wp2_with fail
      go_ret
      exact ⟨by rw [HV.out]; rfl, rfl⟩
    · have HV := hide (show cmpS a b = 0 by rw [HC.out]; unfold sLt sEq; rw [hl, he]; rfl)
      clear HC
      go_enter Try.func26, Try.ntmps26
      go_wp2_with fail
      refine (nanS_any _ _).mono ?_
      rintro e w1 ⟨rfl, rfl⟩
      go_wp2_with fail
      refine (nanS_any _ _).mono ?_
      rintro e w2 ⟨rfl, rfl⟩
      go_wp2_with fail
      go_ret
      exact ⟨by rw [HV.out]; rfl, rfl⟩
  · have HV := hide (show cmpS a b = -1 by rw [HC.out]; unfold sLt; rw [hl]; rfl)
    clear HC
    go_enter Try.func26, Try.ntmps26
    go_wp2_with fail
    refine (nanS_any _ _).mono ?_
    rintro e w1 ⟨rfl, rfl⟩
    go_wp2_with fail
    refine (nanS_any _ _).mono ?_
    rintro e w2 ⟨rfl, rfl⟩
    go_wp2_with fail
    go_ret
    exact ⟨by rw [HV.out]; rfl, rfl⟩
theorem cmpI_any (a b : Int) (w : World) : Calls Try.prog 27 #[.int .i64 a, .int .i64 b] w fun e w' => e = .returned (.int .i64 (cmpI a b)) ∧ w' = w := by
  have HC : Hid (cmpI a b = if a < b then -1 else if b < a then 1 else 0) := hide rfl
  by_cases h1 : a < b
  · have HV := hide (show cmpI a b = -1 by rw [HC.out, if_pos h1])
    go_enter Try.func27, Try.ntmps27
    go_wp2_with fail
    refine (nanI_any _ _).mono ?_
    rintro e w1 ⟨rfl, rfl⟩
    go_wp2_with fail
    refine (nanI_any _ _).mono ?_
    rintro e w2 ⟨rfl, rfl⟩
    go_wp2_with fail
    go_ret
    exact ⟨by rw [HV.out]; rfl, rfl⟩
  · by_cases h2 : b < a
    · have HV := hide (show cmpI a b = 1 by rw [HC.out, if_neg h1, if_pos h2])
      go_enter Try.func27, Try.ntmps27
      go_wp2_with fail
      refine (nanI_any _ _).mono ?_
      rintro e w1 ⟨rfl, rfl⟩
      go_wp2_with fail
      refine (nanI_any _ _).mono ?_
      rintro e w2 ⟨rfl, rfl⟩
      go_wp2_with fail
      go_ret
      exact ⟨by rw [HV.out]; rfl, rfl⟩
    · have HV := hide (show cmpI a b = 0 by rw [HC.out, if_neg h1, if_neg h2])
      go_enter Try.func27, Try.ntmps27
      go_wp2_with fail
      refine (nanI_any _ _).mono ?_
      rintro e w1 ⟨rfl, rfl⟩
      go_wp2_with fail
      refine (nanI_any _ _).mono ?_
      rintro e w2 ⟨rfl, rfl⟩
      go_wp2_with fail
      go_ret
      exact ⟨by rw [HV.out]; rfl, rfl⟩

set_option maxRecDepth 100000 in
theorem or_any (g : Nat) (x y : Int) (w : World) (h1 : w.cell? ⟨g, 0, none⟩ = some (.int .i64 x)) (h2 : w.cell? ⟨g, 1, none⟩ = some (.int .i64 y)) : Calls Try.prog 25 #[.slice (some ⟨g, 0, none⟩) 2 2] w fun e w' => e = .returned (.int .i64 (orI x y)) ∧ w' = w := by
  by_cases hx : x = 0
  · have HV := hide (show orI x y = y by simp [orI, hx])
    have hxb : (x != 0) = false := by simp [hx]
    clear hx
    by_cases hy : y = 0
    · have HY := hide hy
      have hyb : (y != 0) = false := by simp [hy]
      clear hy
      go_enter Try.func25, Try.ntmps25
      go_wp2_with fail
      refine wp_loop_rounds 3 ?_
      rw [rounds_succ]
      go_wp2_with fail
      rw [rounds_succ]
      go_wp2_with fail
      rw [rounds_succ]
      go_wp2_with fail
      go_ret
      exact ⟨by rw [HV.out, HY.out]; rfl, rfl⟩
    · have hyb : (y != 0) = true := by simp [hy]
      clear hy
      go_enter Try.func25, Try.ntmps25
      go_wp2_with fail
      refine wp_loop_rounds 3 ?_
      rw [rounds_succ]
      go_wp2_with fail
      rw [rounds_succ]
      go_wp2_with fail
      go_ret
      exact ⟨by rw [HV.out]; rfl, rfl⟩
  · have HV := hide (show orI x y = x by simp [orI, hx])
    have hxb : (x != 0) = true := by simp [hx]
    clear hx
    go_enter Try.func25, Try.ntmps25
    go_wp2_with fail
    refine wp_loop_rounds 3 ?_
    rw [rounds_succ]
    go_wp2_with fail
    go_ret
    exact ⟨by rw [HV.out]; rfl, rfl⟩

/-- The labels, as the topology holds them. -/
structure Lb (w : World) (T n : Nat) (lab : Nat → ByteArray) (al : Option Addr) (cl : Nat) : Prop where
  c : w.cell? ⟨T, 0, none⟩ = some (.slice al n cl)
  v : ∀ i, i < n → ∃ b off, al = some ⟨b, off, none⟩ ∧ b < w.heap.size ∧ w.cell? ⟨b, off + i, none⟩ = some (.string (lab i))
theorem Lb.later {w w' : World} {T n : Nat} {lab : Nat → ByteArray} {al : Option Addr} {cl : Nat} (h : Lb w T n lab al cl) (hb : Below w.heap.size w w') : Lb w' T n lab al cl := by
  refine ⟨cell_later hb h.c, fun i hi => ?_⟩
  obtain ⟨b, off, e1, e2, e3⟩ := h.v i hi
  exact ⟨b, off, e1, Nat.lt_of_lt_of_le e2 hb.size, cell_later hb e3⟩

theorem nb_is (lab : Nat → ByteArray) (a b : Nat) : decide (orI (cmpS (lab a) (lab b)) (cmpI (a : Int) (b : Int)) < 0) = nb lab a b := by
  unfold orI cmpS nb cmpI
  cases sLt (lab a) (lab b)
  · cases sEq (lab a) (lab b)
    · simp
    · by_cases h : a < b
      · simp [h]
      · have : ¬ ((a : Int) < (b : Int)) := by omega
        simp [h]
        split <;> omega
  · simp

set_option maxRecDepth 100000 in
set_option maxHeartbeats 1000000 in
theorem nodeBefore_any (T n a b : Nat) (lab : Nat → ByteArray) (al : Option Addr) (cl : Nat) (w : World) (h : Lb w T n lab al cl) (ha : a < n) (hb : b < n) :
    Calls Try.prog 20 #[.pointer (some ⟨T, 0, none⟩), .int .i64 a, .int .i64 b] w fun e w' => e = .returned (.bool (nb lab a b)) ∧ Below w.heap.size w w' := by
  have c0 := h.c
  obtain ⟨bl, off, rfl, hl, ca⟩ := h.v a ha
  obtain ⟨bl2, off2, e2, hl2, cb⟩ := h.v b hb
  obtain ⟨rfl, rfl⟩ : bl = bl2 ∧ off = off2 := by simpa using e2
  have i1 : (0 : Int) ≤ (a : Int) := by omega
  have i2 : (a : Int) < (n : Int) := by omega
  have i3 : (0 : Int) ≤ (b : Int) := by omega
  have i4 : (b : Int) < (n : Int) := by omega
  have HN := hide (nb_is lab a b)
  have HS := hide (fun wx => cmpS_any (lab a) (lab b) wx)
  have HI := hide (fun wx => cmpI_any (a : Int) (b : Int) wx)
  generalize cmpS (lab a) (lab b) = x at *
  generalize cmpI (a : Int) (b : Int) = y at *
  have HO := hide (fun g wx h1 h2 => or_any g x y wx h1 h2)
  clear e2 h
  go_enter Try.func20, Try.ntmps20
  go_upto_region 1 with fail
  go_region_with (first
    | (go_at_call 26; refine (HS.out _).mono ?_; rintro e w1 ⟨rfl, rfl⟩)
    | (go_at_call 27; refine (HI.out _).mono ?_; rintro e w2 ⟨rfl, rfl⟩)
    | (go_at_call 25; refine (HO.out _ _ (by simp) (by simp)).mono ?_; rintro e w3 ⟨rfl, rfl⟩))
  all_goals
    go_wp2_with fail
    go_ret
    refine ⟨by rw [← HN.out]; rfl, ?_⟩
    first | exact ((Below.refl _ _).alloc (Nat.le_refl _) _).drew | exact (Below.refl _ _).drew.alloc (Nat.le_refl _) _
end Go.Proofs.Qxb6628650a
