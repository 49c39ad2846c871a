/-
  WALKS of seat b6628726a: package time at instants of at most 2^62 nanoseconds behind the zero Time, no monotonic reading.
-/
import Derived.Test.Qxb6628726aRows
import Derived.WalkKit
import Derived.WalkSpells
import Derived.WalkLawsBesides
import Derived.Deep.RegionHeld3
import Derived.Deep.AppendLies
import Derived.Deep.DeepCutAuto
import Derived.Deep.CutBlock
import Derived.Laws.BitsAllLaws
namespace Go.Proofs.Qxb6628726a
open Go.RowKit
set_option linter.unusedVariables false

theorem hide {p : Prop} (h : p) : Hid p := h
theorem ret_int {k : IntKind} {a b : Int} (h : a = b) : Ending.returned (.int k a) = .returned (.int k b) := by rw [h]
theorem ret_bool {a b : Bool} (h : a = b) : Ending.returned (.bool a) = .returned (.bool b) := by rw [h]

theorem and_mask (x : Nat) (h : x < 1073741824) : bits .and .u64 (x : Int) 1073741823 = x := by
  have e := u64_and_nat x 1073741823 (by omega) (by omega)
  have : x &&& 1073741823 = x := by
    rw [show (1073741823 : Nat) = 2 ^ 30 - 1 by rfl, Nat.and_two_pow_sub_one_eq_mod]
    omega
  rw [this] at e
  exact e
theorem and_mono (x : Nat) (h : x < 1073741824) : bits .and .u64 (x : Int) 9223372036854775808 = 0 := by
  have e := u64_and_nat x 9223372036854775808 (by omega) (by omega)
  have : x &&& 9223372036854775808 = 0 := by
    rw [show (9223372036854775808 : Nat) = 1 * 2 ^ 63 by rfl]
    apply Nat.eq_of_testBit_eq
    intro i
    rw [Nat.testBit_and, Nat.zero_testBit, Nat.testBit_mul_two_pow]
    by_cases c : i < 63
    · simp; omega
    · rw [Nat.testBit_lt_two_pow (show x < 2 ^ i from Nat.lt_of_lt_of_le (show x < 2 ^ 63 by omega) (Nat.pow_le_pow_right (by omega) (by omega) : 2 ^ 63 ≤ 2 ^ i))]; simp
  rw [this] at e
  exact e
theorem mono_no (x : Int) (h0 : 0 ≤ x) (h : x < 1073741824) : (bits .and .u64 x 9223372036854775808 != 0) = false := by
  obtain ⟨n, rfl⟩ := Int.eq_ofNat_of_zero_le h0
  rw [and_mono n (by omega)]; rfl
theorem mask_of (x : Int) (h0 : 0 ≤ x) (h : x < 1073741824) : wrap32 (bits .and .u64 x 1073741823) = x := by
  obtain ⟨n, rfl⟩ := Int.eq_ofNat_of_zero_le h0
  rw [and_mask n (by omega)]; unfold wrap32; omega

set_option maxHeartbeats 400000 in
theorem nsec_any (b o : Nat) (x : Int) (h : 0 ≤ x) (hx : x < 1073741824) (w : World) (h0 : w.cell? ⟨b, o, none⟩ = some (.int .u64 x)) :
    Calls Try.prog 37 #[.pointer (some ⟨b, o, none⟩)] w fun e w' => e = .returned (.int .i32 x) ∧ w' = w := by
  go_enter Try.func37, Try.ntmps37
  go_wp2_with fail
  go_ret
  exact ⟨ret_int (mask_of x h hx), rfl⟩

set_option maxHeartbeats 400000 in
theorem sec_any (b o : Nat) (x s : Int) (h : 0 ≤ x) (hx : x < 1073741824) (w : World) (h0 : w.cell? ⟨b, o, none⟩ = some (.int .u64 x)) (h1 : w.cell? ⟨b, o + 1, none⟩ = some (.int .i64 s)) :
    Calls Try.prog 43 #[.pointer (some ⟨b, o, none⟩)] w fun e w' => e = .returned (.int .i64 s) ∧ w' = w := by
  have hm := mono_no x h hx
  go_enter Try.func43, Try.ntmps43
  go_wp2_with fail
  go_ret
  exact ⟨rfl, rfl⟩

set_option maxHeartbeats 400000 in
theorem addSec_any (b o : Nat) (x s d : Int) (h : 0 ≤ x) (hx : x < 1073741824) (h2 : 0 ≤ s) (h3 : 0 ≤ d) (h4 : s + d ≤ 4611686019) (w : World) (h0 : w.cell? ⟨b, o, none⟩ = some (.int .u64 x)) (h1 : w.cell? ⟨b, o + 1, none⟩ = some (.int .i64 s)) (hf : w.frozen? ⟨b, o + 1, none⟩ = false) :
    Calls Try.prog 40 #[.pointer (some ⟨b, o, none⟩), .int .i64 d] w fun e w' => e = .returned (.tuple #[]) ∧ w' = w.setCell ⟨b, o + 1, none⟩ (.int .i64 (s + d)) := by
  have hm := mono_no x h hx
  by_cases hd : 0 < d
  · have h5 : s < s + d := by omega
    go_enter Try.func40, Try.ntmps40
    go_wp2_with fail
    go_end0
    exact ⟨rfl, rfl⟩
  · have h5 : ¬ s < s + d := by omega
    go_enter Try.func40, Try.ntmps40
    go_wp2_with fail
    go_end0
    exact ⟨rfl, rfl⟩

theorem clear_or (x y : Nat) (hx : x < 1073741824) (hy : y < 1073741824) : bits .or .u64 (bits .andNot .u64 (x : Int) 1073741823) (y : Int) = y := by
  have e := u64_andNot_nat x 1073741823 (by omega) (by omega)
  have z : x &&& (18446744073709551615 - 1073741823) = 0 := by
    rw [show (18446744073709551615 - 1073741823 : Nat) = (2 ^ 34 - 1) * 2 ^ 30 by rfl]
    apply Nat.eq_of_testBit_eq
    intro i
    rw [Nat.testBit_and, Nat.zero_testBit, Nat.testBit_mul_two_pow]
    by_cases c : i < 30
    · simp; omega
    · rw [Nat.testBit_lt_two_pow (show x < 2 ^ i from Nat.lt_of_lt_of_le hx (Nat.pow_le_pow_right (by omega) (by omega) : 2 ^ 30 ≤ 2 ^ i))]; simp
  rw [z] at e
  have e' : bits .andNot .u64 (x : Int) 1073741823 = ((0 : Nat) : Int) := e
  rw [e', u64_or_nat 0 y (by omega) (by omega)]
  simp

theorem clear_w (x : Nat) (y : Int) (hx : x < 1073741824) (h0 : 0 ≤ y) (hy : y < 1073741824) : bits .or .u64 (bits .andNot .u64 (x : Int) 1073741823) y = y := by
  obtain ⟨n, rfl⟩ := Int.eq_ofNat_of_zero_le h0
  exact clear_or x n hx (by omega)


set_option maxRecDepth 100000 in
set_option maxHeartbeats 400000 in
theorem add_over (x s : Nat) (d q r : Int) (hx : x < 1000000000) (hs : (s : Int) + q ≤ 4611686018) (hq : d / 1000000000 = q) (hr : d % 1000000000 = r) (hd : 0 ≤ d) (hd2 : d ≤ 4611686018427387904) (hq0 : 0 ≤ q) (hr0 : 0 ≤ r) (hr1 : r < 1000000000) (hc : 1000000000 ≤ (x : Int) + r) (w : World) :
    Calls Try.prog 28 #[.agg #[.int .u64 x, .int .i64 s, .pointer none], .int .i64 d] w fun e w' => e = .returned (.agg #[.int .u64 ((x : Int) + r - 1000000000), .int .i64 ((s : Int) + (q + 1)), .pointer none]) ∧ Below w.heap.size w w' := by
  have hm := mono_no ((x : Int) + r - 1000000000) (by omega) (by omega)
  go_enter Try.func28, Try.ntmps28
  go_wp2_with fail
  refine (nsec_any _ _ x (by omega) (by omega) _ (by simp)).mono ?_
  rintro e w' ⟨rfl, hw⟩
  rw [hw]; clear hw w'
  go_wp2_with fail
  rw [clear_w x _ (by omega) (by omega) (by omega)]
  refine (addSec_any _ _ ((x : Int) + r - 1000000000) s (q + 1) (by omega) (by omega) (by omega) (by omega) (by omega) _ (by simp) (by simp) (by simp)).mono ?_
  rintro e w' ⟨rfl, hw⟩
  rw [hw]; clear hw w'
  go_wp2_with fail
  exact bodyPost_ret (v := .agg #[.int .u64 ((x : Int) + r - 1000000000), .int .i64 ((s : Int) + (q + 1)), .pointer none]) (by simp [results, Try.results28, go_sem]) rfl ⟨rfl, ((Below.refl _ _).alloc (Nat.le_refl _) _).alloc (by simp) _⟩

set_option maxRecDepth 100000 in
set_option maxHeartbeats 400000 in
theorem add_under (x s : Nat) (d q r : Int) (hx : x < 1000000000) (hs : (s : Int) + q ≤ 4611686018) (hq : d / 1000000000 = q) (hr : d % 1000000000 = r) (hd : 0 ≤ d) (hd2 : d ≤ 4611686018427387904) (hq0 : 0 ≤ q) (hr0 : 0 ≤ r) (hr1 : r < 1000000000) (hc : (x : Int) + r < 1000000000) (w : World) :
    Calls Try.prog 28 #[.agg #[.int .u64 x, .int .i64 s, .pointer none], .int .i64 d] w fun e w' => e = .returned (.agg #[.int .u64 ((x : Int) + r), .int .i64 ((s : Int) + q), .pointer none]) ∧ Below w.heap.size w w' := by
  have hm := mono_no ((x : Int) + r) (by omega) (by omega)
  go_enter Try.func28, Try.ntmps28
  go_wp2_with fail
  refine (nsec_any _ _ x (by omega) (by omega) _ (by simp)).mono ?_
  rintro e w' ⟨rfl, hw⟩
  rw [hw]; clear hw w'
  go_wp2_with fail
  rw [clear_w x _ (by omega) (by omega) (by omega)]
  refine (addSec_any _ _ ((x : Int) + r) s q (by omega) (by omega) (by omega) (by omega) (by omega) _ (by simp) (by simp) (by simp)).mono ?_
  rintro e w' ⟨rfl, hw⟩
  rw [hw]; clear hw w'
  go_wp2_with fail
  exact bodyPost_ret (v := .agg #[.int .u64 ((x : Int) + r), .int .i64 ((s : Int) + q), .pointer none]) (by simp [results, Try.results28, go_sem]) rfl ⟨rfl, ((Below.refl _ _).alloc (Nat.le_refl _) _).alloc (by simp) _⟩

theorem bcell {W w1 : World} (hb : Below W.heap.size W w1) : (∀ b o, b < W.heap.size → w1.cell? ⟨b, o, none⟩ = W.cell? ⟨b, o, none⟩) ∧ (∀ b o, b < W.heap.size → w1.frozen? ⟨b, o, none⟩ = W.frozen? ⟨b, o, none⟩) :=
  ⟨fun b o h => hb.cell (p := ⟨b, o, none⟩) h, fun b o h => hb.frozen (p := ⟨b, o, none⟩) h⟩

/-- The Time that lies N nanoseconds behind the zero Time: its nanoseconds, its seconds. -/
def ns (N : Nat) : Nat := N % 1000000000
def sc (N : Nat) : Nat := N / 1000000000
abbrev TM (N : Nat) : Value := .agg #[.int .u64 (ns N), .int .i64 (sc N), .pointer none]
theorem ns_lt (N : Nat) : ns N < 1000000000 := Nat.mod_lt _ (by omega)
theorem ns_sc (N : Nat) : sc N * 1000000000 + ns N = N := by unfold ns sc; omega
theorem sc_le {N : Nat} (h : N ≤ 4611686018427387904) : sc N ≤ 4611686018 := by unfold sc; omega
theorem ns_of {x s N : Nat} (hx : x < 1000000000) (h : s * 1000000000 + x = N) : ns N = x ∧ sc N = s := by unfold ns sc; omega

theorem add_any (N D : Nat) (h : N + D ≤ 4611686018427387904) (w : World) :
    Calls Try.prog 28 #[TM N, .int .i64 D] w fun e w' => e = .returned (TM (N + D)) ∧ Below w.heap.size w w' := by
  have a := ns_lt N
  have b := ns_sc N
  have c := sc_le (show N + D ≤ 4611686018427387904 from h)
  have a2 := ns_lt (N + D)
  have b2 := ns_sc (N + D)
  by_cases hc : 1000000000 ≤ ns N + D % 1000000000
  · have e : ((ns N : Int) + (D : Int) % 1000000000 - 1000000000) = ((ns (N + D) : Nat) : Int) ∧ ((sc N : Int) + ((D : Int) / 1000000000 + 1)) = ((sc (N + D) : Nat) : Int) := by omega
    have := add_over (ns N) (sc N) (D : Int) _ _ a (by omega) rfl rfl (by omega) (by omega) (by omega) (by omega) (by omega) (by omega) w
    rw [e.1, e.2] at this
    exact this
  · have e : ((ns N : Int) + (D : Int) % 1000000000) = ((ns (N + D) : Nat) : Int) ∧ ((sc N : Int) + (D : Int) / 1000000000) = ((sc (N + D) : Nat) : Int) := by omega
    have := add_under (ns N) (sc N) (D : Int) _ _ a (by omega) rfl rfl (by omega) (by omega) (by omega) (by omega) (by omega) (by omega) w
    rw [e.1, e.2] at this
    exact this

theorem mono_no2 (x y : Nat) (h : x < 1073741824) (h2 : y < 1073741824) : (bits .and .u64 (bits .and .u64 (x : Int) (y : Int)) 9223372036854775808 != 0) = false := by
  rw [u64_and_nat x y (by omega) (by omega)]
  exact mono_no _ (by omega) (by have : x &&& y ≤ x := Nat.and_le_left; omega)

set_option maxRecDepth 100000 in
set_option maxHeartbeats 400000 in
theorem equal_any (x s : Nat) (hx : x < 1000000000) (w : World) :
    Calls Try.prog 45 #[.agg #[.int .u64 x, .int .i64 s, .pointer none], .agg #[.int .u64 x, .int .i64 s, .pointer none]] w fun e w' => e = .returned (.bool true) ∧ Below w.heap.size w w' := by
  have hm := mono_no2 x x (by omega) (by omega)
  go_enter Try.func45, Try.ntmps45
  go_wp2_with fail
  refine (sec_any _ _ x s (by omega) (by omega) _ (by simp) (by simp)).mono ?_
  rintro e w' ⟨rfl, hw⟩
  rw [hw]; clear hw w'
  go_wp2_with fail
  refine (sec_any _ _ x s (by omega) (by omega) _ (by simp) (by simp)).mono ?_
  rintro e w' ⟨rfl, hw⟩
  rw [hw]; clear hw w'
  go_wp2_with fail
  refine (nsec_any _ _ x (by omega) (by omega) _ (by simp)).mono ?_
  rintro e w' ⟨rfl, hw⟩
  rw [hw]; clear hw w'
  go_wp2_with fail
  refine (nsec_any _ _ x (by omega) (by omega) _ (by simp)).mono ?_
  rintro e w' ⟨rfl, hw⟩
  rw [hw]; clear hw w'
  go_wp2_with fail
  go_ret
  exact ⟨by simp, ((Below.refl _ _).alloc (Nat.le_refl _) _).alloc (by simp) _⟩

set_option maxHeartbeats 400000 in
theorem unixSec_any (b o : Nat) (x s : Int) (h : 0 ≤ x) (hx : x < 1073741824) (hs0 : 0 ≤ s) (hs : s ≤ 4611686018) (w : World) (h0 : w.cell? ⟨b, o, none⟩ = some (.int .u64 x)) (h1 : w.cell? ⟨b, o + 1, none⟩ = some (.int .i64 s)) :
    Calls Try.prog 36 #[.pointer (some ⟨b, o, none⟩)] w fun e w' => e = .returned (.int .i64 (s + -62135596800)) ∧ w' = w := by
  go_enter Try.func36, Try.ntmps36
  go_wp2_with fail
  refine (sec_any _ _ x s h hx _ h0 h1).mono ?_
  rintro e w' ⟨rfl, hw⟩
  rw [hw]; clear hw w'
  go_wp2_with fail
  go_ret
  exact ⟨rfl, rfl⟩

set_option maxHeartbeats 400000 in
theorem unix_any (x s : Nat) (hx : x < 1000000000) (hs : s ≤ 4611686018) (w : World) :
    Calls Try.prog 23 #[.agg #[.int .u64 x, .int .i64 s, .pointer none]] w fun e w' => e = .returned (.int .i64 ((s : Int) + -62135596800)) ∧ Below w.heap.size w w' := by
  go_enter Try.func23, Try.ntmps23
  go_wp2_with fail
  refine (unixSec_any _ _ x s (by omega) (by omega) (by omega) (by omega) _ (by simp) (by simp)).mono ?_
  rintro e w' ⟨rfl, hw⟩
  rw [hw]; clear hw w'
  go_wp2_with fail
  go_ret
  exact ⟨rfl, (Below.refl _ _).alloc (Nat.le_refl _) _⟩

set_option maxHeartbeats 400000 in
theorem nanosecond_any (x s : Nat) (hx : x < 1000000000) (w : World) :
    Calls Try.prog 25 #[.agg #[.int .u64 x, .int .i64 s, .pointer none]] w fun e w' => e = .returned (.int .i64 (x : Int)) ∧ Below w.heap.size w w' := by
  go_enter Try.func25, Try.ntmps25
  go_wp2_with fail
  refine (nsec_any _ _ x (by omega) (by omega) _ (by simp)).mono ?_
  rintro e w' ⟨rfl, hw⟩
  rw [hw]; clear hw w'
  go_wp2_with fail
  go_ret
  exact ⟨rfl, (Below.refl _ _).alloc (Nat.le_refl _) _⟩

theorem add_sum (y u D x s : Nat) (hy : y < 1000000000) (hx : x < 1000000000) (hD : (u * 1000000000 + y) + D = s * 1000000000 + x) (hb : s * 1000000000 + x ≤ 4611686018427387904) (w : World) :
    Calls Try.prog 28 #[.agg #[.int .u64 y, .int .i64 u, .pointer none], .int .i64 D] w fun e w' => e = .returned (.agg #[.int .u64 x, .int .i64 s, .pointer none]) ∧ Below w.heap.size w w' := by
  obtain ⟨M, hM⟩ : ∃ M, u * 1000000000 + y = M := ⟨_, rfl⟩
  obtain ⟨M2, hM2⟩ : ∃ M2, s * 1000000000 + x = M2 := ⟨_, rfl⟩
  rw [hM, hM2] at hD
  obtain ⟨e1, e2⟩ := ns_of hy hM
  obtain ⟨e3, e4⟩ := ns_of hx hM2
  have := add_any M D (by omega) w
  rw [hD] at this
  unfold TM at this
  rw [e1, e2, e3, e4] at this
  exact this

set_option maxRecDepth 100000 in
set_option maxHeartbeats 400000 in
theorem zzat_any (D : Nat) (h : D ≤ 4611686018427387904) (w : World) :
    Calls Try.prog 11 #[.int .i64 D] w fun e w' => e = .returned (TM D) ∧ Below w.heap.size w w' := by
  have e0 := ns_sc D
  have e1 : 0 * 1000000000 + 0 + D = sc D * 1000000000 + ns D := by rw [e0]; simp
  have e2 : sc D * 1000000000 + ns D ≤ 4611686018427387904 := by rw [e0]; exact h
  have H := hide (fun w => (show Calls Try.prog 28 #[.agg #[.int .u64 0, .int .i64 0, .pointer none], .int .i64 D] w fun e w' => e = .returned (TM D) ∧ Below w.heap.size w w' from
    add_sum 0 0 D (ns D) (sc D) (by omega) (ns_lt D) e1 e2 w))
  clear e0 e1 e2
  go_enter Try.func11, Try.ntmps11
  go_wp2_with fail
  refine (H.out _).mono ?_
  rintro e w' ⟨rfl, hb⟩
  have hz : w.heap.size < w'.heap.size := by have := hb.size; simp at this; omega
  obtain ⟨hc, hf⟩ := bcell hb
  go_wp2_with fail
  exact bodyPost_ret (v := TM D) (by simp [results, Try.results11, go_sem, hc]) rfl ⟨rfl, (((((Below.refl _ _).alloc (Nat.le_refl _) _).trans (hb.mono (by simp))).setCell (by simp) _).setCell (by simp) _).setCell (by simp) _⟩

set_option maxRecDepth 100000 in
set_option maxHeartbeats 400000 in
theorem sub_core (x s y u : Nat) (D : Nat) (hx : x < 1000000000) (hy : y < 1000000000) (hs : s ≤ 4611686018) (hu : u ≤ s) (hD : (u * 1000000000 + y) + D = s * 1000000000 + x) (hb : s * 1000000000 + x ≤ 4611686018427387904) (w : World) :
    Calls Try.prog 38 #[.agg #[.int .u64 x, .int .i64 s, .pointer none], .agg #[.int .u64 y, .int .i64 u, .pointer none]] w fun e w' => e = .returned (.int .i64 D) ∧ Below w.heap.size w w' := by
  have hm := mono_no2 x y (by omega) (by omega)
  go_enter Try.func38, Try.ntmps38
  go_wp2_with fail
  refine (sec_any _ _ x s (by omega) (by omega) _ (by simp) (by simp)).mono ?_
  rintro e w' ⟨rfl, hw⟩
  rw [hw]; clear hw w'
  go_wp2_with fail
  refine (sec_any _ _ y u (by omega) (by omega) _ (by simp) (by simp)).mono ?_
  rintro e w' ⟨rfl, hw⟩
  rw [hw]; clear hw w'
  go_wp2_with fail
  refine (nsec_any _ _ x (by omega) (by omega) _ (by simp)).mono ?_
  rintro e w' ⟨rfl, hw⟩
  rw [hw]; clear hw w'
  go_wp2_with fail
  refine (nsec_any _ _ y (by omega) (by omega) _ (by simp)).mono ?_
  rintro e w' ⟨rfl, hw⟩
  rw [hw]; clear hw w'
  go_upto_region 5 with fail
  rw [show (((s : Int) - u) * 1000000000 + ((x : Int) - y)) = (D : Int) by omega]
  have H28 := hide (add_sum y u D x s hy hx hD hb)
  generalize hW : (w.alloc (Obj.cells #[Value.int IntKind.u64 ↑x, Value.int IntKind.i64 ↑s, Value.pointer none] 36)).alloc (Obj.cells #[Value.int IntKind.u64 ↑y, Value.int IntKind.i64 ↑u, Value.pointer none] 36) = W
  have hWb : Hid (Below w.heap.size w W) := by rw [← hW]; exact ((Below.refl _ _).alloc (Nat.le_refl _) _).alloc (by simp) _
  have c0 : W.cell? ⟨w.heap.size, 0, none⟩ = some (.int .u64 x) := by rw [← hW]; simp
  have c1 : W.cell? ⟨w.heap.size, 1, none⟩ = some (.int .i64 s) := by rw [← hW]; simp
  have c2 : W.cell? ⟨w.heap.size, 2, none⟩ = some (.pointer none) := by rw [← hW]; simp
  have d0 : W.cell? ⟨w.heap.size + 1, 0, none⟩ = some (.int .u64 y) := by rw [← hW]; simp
  have d1 : W.cell? ⟨w.heap.size + 1, 1, none⟩ = some (.int .i64 u) := by rw [← hW]; simp
  have d2 : W.cell? ⟨w.heap.size + 1, 2, none⟩ = some (.pointer none) := by rw [← hW]; simp
  clear hW
  go_region_held3 (fun w' => Below W.heap.size W w' ∧ w'.cell? ⟨w.heap.size, 0, none⟩ = some (.int .u64 x) ∧ w'.cell? ⟨w.heap.size, 1, none⟩ = some (.int .i64 s) ∧ w'.cell? ⟨w.heap.size, 2, none⟩ = some (.pointer none) ∧ w'.cell? ⟨w.heap.size + 1, 0, none⟩ = some (.int .u64 y) ∧ w'.cell? ⟨w.heap.size + 1, 1, none⟩ = some (.int .i64 u) ∧ w'.cell? ⟨w.heap.size + 1, 2, none⟩ = some (.pointer none))
    (first | (exact ⟨(Below.refl _ _).drew, by go_keep⟩) | (go_split_ands; refine ⟨?_, ?_, ?_, ?_, ?_, ?_, ?_⟩ <;> first | exact cell_later hb (by assumption) | exact Below.trans (by assumption) (hb.mono (Below.size (by assumption)))))
    (first | (go_at_call 28; refine (H28.out _).mono ?_; rintro e w1 ⟨rfl, hb⟩) | (go_at_call 45; refine (equal_any x s hx _).mono ?_; rintro e w1 ⟨rfl, hb⟩))
  go_wp2_with fail
  go_ret
  rename_i hHeld
  exact ⟨rfl, hWb.out.trans (Below.mono hHeld.1 (Below.size hWb.out))⟩

theorem sub_any (N M : Nat) (h : M ≤ N) (hN : N ≤ 4611686018427387904) (w : World) :
    Calls Try.prog 38 #[TM N, TM M] w fun e w' => e = .returned (.int .i64 ((N - M : Nat) : Int)) ∧ Below w.heap.size w w' := by
  have a := ns_sc N
  have b := ns_sc M
  have c := ns_lt N
  have d := ns_lt M
  have e1 : sc M ≤ sc N := by omega
  have e2 : sc M * 1000000000 + ns M + (N - M) = sc N * 1000000000 + ns N := by rw [a, b]; exact Nat.add_sub_cancel' h
  have e3 : sc N * 1000000000 + ns N ≤ 4611686018427387904 := by rw [a]; exact hN
  exact sub_core (ns N) (sc N) (ns M) (sc M) (N - M) c d (sc_le hN) e1 e2 e3 w

end Go.Proofs.Qxb6628726a
