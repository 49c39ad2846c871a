/-
  FLOATS (seat b6628650a): of words that are not negative: addition is monotone, exact where it can be, and grows; the order is the words' own.
-/
import Derived.Test.Qxb6628650aRows
import Ieee.Arith
namespace Go.Proofs.Qxb6628650a
open Ieee
set_option linter.unusedVariables false

abbrev bn : Nat := 4503599627370496
abbrev infW : Nat := 9218868437227405312

/-- n / 2^d, to the nearest, ties to even. -/
def rne (n d : Nat) : Nat := n / 2 ^ d + (if 2 ^ d < 2 * (n % 2 ^ d) ∨ (2 ^ d = 2 * (n % 2 ^ d) ∧ n / 2 ^ d % 2 = 1) then 1 else 0)
def magW (x : Nat) : Nat := if x < bn then x else bn + x % bn
def exW (x : Nat) : Nat := x / bn - 1
/-- The value of a word, in units of the least place. -/
def V (x : Nat) : Nat := magW x * 2 ^ exW x
/-- The word nearest to a value. -/
def rdW (W : Nat) : Nat := if W = 0 then 0 else (W.log2 - 52) * bn + rne W (W.log2 - 52)
def addF (x y : Nat) : Nat := min (rdW (V x + V y)) infW

theorem cut_rne (n d : Nat) : Toward.even.cut false n d = rne n d := by
  unfold Toward.cut rne
  simp only [Nat.one_shiftLeft]
  by_cases h : d ≤ n.log2 + 2
  · rw [Nat.min_eq_left h]
    congr 1
    by_cases c : 2 ^ d < 2 * (n % 2 ^ d) ∨ (2 ^ d = 2 * (n % 2 ^ d) ∧ n / 2 ^ d % 2 = 1)
    · rw [if_pos c]
      have : (decide (2 ^ d < 2 * (n % 2 ^ d)) || (2 ^ d == 2 * (n % 2 ^ d) && n / 2 ^ d % 2 == 1)) = true := by
        rw [Bool.or_eq_true, Bool.and_eq_true, decide_eq_true_iff, beq_iff_eq, beq_iff_eq]; exact c
      rw [this]; rfl
    · rw [if_neg c]
      have : (decide (2 ^ d < 2 * (n % 2 ^ d)) || (2 ^ d == 2 * (n % 2 ^ d) && n / 2 ^ d % 2 == 1)) = false := by
        rw [← Bool.not_eq_true, Bool.or_eq_true, Bool.and_eq_true, decide_eq_true_iff, beq_iff_eq, beq_iff_eq]; exact c
      rw [this]; rfl
  · rw [Nat.min_eq_right (by omega)]
    have h1 : n < 2 ^ (n.log2 + 1) := Nat.lt_log2_self
    have h2 : 2 ^ (n.log2 + 2) = 2 * 2 ^ (n.log2 + 1) := by rw [Nat.pow_succ]; omega
    have h3 : 2 ^ (n.log2 + 2) ≤ 2 ^ d := Nat.pow_le_pow_right (by omega) (by omega)
    rw [Nat.div_eq_of_lt (by omega), Nat.div_eq_of_lt (a := n) (b := 2 ^ d) (by omega), Nat.mod_eq_of_lt (by omega), Nat.mod_eq_of_lt (a := n) (b := 2 ^ d) (by omega)]
    have e1 : decide (2 ^ (n.log2 + 2) < 2 * n) = false := decide_eq_false (by omega)
    rw [if_neg (by omega), e1]
    simp

theorem rne_scale (n d e : Nat) : rne (n * 2 ^ e) (d + e) = rne n d := by
  have hp : 0 < 2 ^ e := Nat.two_pow_pos e
  unfold rne
  rw [Nat.pow_add, Nat.mul_div_mul_right _ _ hp, Nat.mul_mod_mul_right]
  congr 1
  have a : (2 ^ d * 2 ^ e < 2 * (n % 2 ^ d * 2 ^ e)) ↔ (2 ^ d < 2 * (n % 2 ^ d)) := by
    rw [← Nat.mul_assoc]; exact Nat.mul_lt_mul_right hp
  have b : (2 ^ d * 2 ^ e = 2 * (n % 2 ^ d * 2 ^ e)) ↔ (2 ^ d = 2 * (n % 2 ^ d)) := by
    rw [← Nat.mul_assoc]; exact Nat.mul_left_inj (by omega)
  simp only [a, b]

theorem rne_zero (n : Nat) : rne n 0 = n := by unfold rne; simp [Nat.mod_one]
theorem rne_exact (q d : Nat) : rne (q * 2 ^ d) d = q := by
  have := rne_scale q 0 d
  rw [Nat.zero_add, rne_zero] at this
  exact this
theorem rne_le (n d : Nat) : n / 2 ^ d ≤ rne n d ∧ rne n d ≤ n / 2 ^ d + 1 := by
  unfold rne; split <;> omega
theorem rne_mono {n m : Nat} (h : n ≤ m) (d : Nat) : rne n d ≤ rne m d := by
  have a := rne_le n d
  have b := rne_le m d
  have c : n / 2 ^ d ≤ m / 2 ^ d := Nat.div_le_div_right h
  by_cases e : n / 2 ^ d = m / 2 ^ d
  · have r : n % 2 ^ d ≤ m % 2 ^ d := by
      have p := Nat.div_add_mod n (2 ^ d)
      have q := Nat.div_add_mod m (2 ^ d)
      rw [e] at p
      omega
    unfold rne
    rw [e]
    split <;> split <;> omega
  · omega

theorem log2_mul (m e : Nat) (h : m ≠ 0) : (m * 2 ^ e).log2 = m.log2 + e := by
  induction e with
  | zero => simp
  | succ e ih =>
    have hne : m * 2 ^ e ≠ 0 := Nat.mul_ne_zero h (by have := Nat.two_pow_pos e; omega)
    rw [show m * 2 ^ (e + 1) = 2 * (m * 2 ^ e) by rw [Nat.pow_succ, ← Nat.mul_assoc, Nat.mul_comm], Nat.log2_two_mul hne, ih]
    omega

theorem log2_lt53 {m : Nat} (h : m < 2 ^ 53) (h0 : m ≠ 0) : m.log2 ≤ 52 := by
  have := (Nat.log2_lt h0).2 h
  omega

theorem pow_half (k : Nat) (h : 1 ≤ k) : 2 ^ k = 2 * 2 ^ (k - 1) := by
  obtain ⟨j, rfl⟩ : ∃ j, k = j + 1 := ⟨k - 1, by omega⟩
  rw [Nat.pow_succ]; simp; omega

theorem quot_bd {W : Nat} (h : W ≠ 0) : W / 2 ^ (W.log2 - 52) < 2 * bn ∧ (52 ≤ W.log2 → bn ≤ W / 2 ^ (W.log2 - 52)) := by
  have h1 : W < 2 ^ (W.log2 + 1) := Nat.lt_log2_self
  have h2 : 2 ^ W.log2 ≤ W := Nat.log2_self_le h
  constructor
  · rw [Nat.div_lt_iff_lt_mul (Nat.two_pow_pos _)]
    refine Nat.lt_of_lt_of_le h1 ?_
    have : 2 * bn = 2 ^ 53 := by decide
    rw [this, ← Nat.pow_add]
    exact Nat.pow_le_pow_right (by omega) (by omega)
  · intro h52
    rw [Nat.le_div_iff_mul_le (Nat.two_pow_pos _)]
    have : bn = 2 ^ 52 := by decide
    rw [this, ← Nat.pow_add]
    exact Nat.le_trans (Nat.pow_le_pow_right (by omega) (by omega)) h2

theorem rd_mono {W X : Nat} (h : W ≤ X) : rdW W ≤ rdW X := by
  unfold rdW
  by_cases hw : W = 0
  · rw [if_pos hw]; omega
  have hx : X ≠ 0 := by omega
  rw [if_neg hw, if_neg hx]
  have hl : W.log2 ≤ X.log2 := by
    rw [Nat.le_log2 hx]
    exact Nat.le_trans (Nat.log2_self_le hw) h
  by_cases e : W.log2 - 52 = X.log2 - 52
  · rw [e]
    have := rne_mono h (X.log2 - 52)
    omega
  · have a := quot_bd hw
    have b := quot_bd hx
    have c := rne_le W (W.log2 - 52)
    have d := rne_le X (X.log2 - 52)
    have f := b.2 (by omega)
    have g : (W.log2 - 52) + 1 ≤ X.log2 - 52 := by omega
    have k : ((W.log2 - 52) + 1) * bn ≤ (X.log2 - 52) * bn := Nat.mul_le_mul_right _ g
    have k2 : ((W.log2 - 52) + 1) * bn = (W.log2 - 52) * bn + bn := Nat.succ_mul _ _
    omega

theorem mag_lt (x : Nat) : magW x < 2 * bn := by
  unfold magW; split
  · omega
  · have := Nat.mod_lt x (show 0 < bn by decide); omega

/-- A value of at most 53 digits is a word's. -/
theorem V_rd (m s : Nat) (hm : m < 2 ^ 53) : V (rdW (m * 2 ^ s)) = m * 2 ^ s := by
  by_cases h0 : m = 0
  · subst h0; simp [rdW, V, magW]
  have hW : m * 2 ^ s ≠ 0 := Nat.mul_ne_zero h0 (by have := Nat.two_pow_pos s; omega)
  have hl := log2_mul m s h0
  have hlm := log2_lt53 hm h0
  obtain ⟨L, hL⟩ : ∃ L, (m * 2 ^ s).log2 - 52 = L := ⟨_, rfl⟩
  have hLs : L ≤ s := by omega
  obtain ⟨q, hq⟩ : ∃ q, m * 2 ^ s = q * 2 ^ L := ⟨m * 2 ^ (s - L), by rw [Nat.mul_assoc, ← Nat.pow_add]; congr 2; omega⟩
  have qb := quot_bd hW
  rw [hL, hq, Nat.mul_div_cancel _ (Nat.two_pow_pos _)] at qb
  have e1 : rdW (m * 2 ^ s) = L * bn + q := by
    unfold rdW
    rw [if_neg hW, hL, hq, rne_exact]
  rw [e1, hq]
  by_cases c : q < bn
  · have hL0 : L = 0 := by
      by_cases d : 52 ≤ (q * 2 ^ L).log2
      · have := qb.2 d; omega
      · rw [hq] at hL; omega
    subst hL0
    rw [Nat.zero_mul, Nat.zero_add]
    unfold V magW exW
    rw [if_pos c, Nat.div_eq_of_lt c]
  · have hd : (L * bn + q) / bn = L + 1 := by
      rw [Nat.add_comm, Nat.add_mul_div_right _ _ (by decide)]
      have : q / bn = 1 := by
        rw [Nat.div_eq_iff (by decide)]
        omega
      omega
    have hmd : (L * bn + q) % bn = q - bn := by
      rw [Nat.add_comm, Nat.add_mul_mod_self_right, Nat.mod_eq_sub_mod (by omega), Nat.mod_eq_of_lt (by omega)]
    have hge : ¬ L * bn + q < bn := by omega
    have em : magW (L * bn + q) = q := by unfold magW; rw [if_neg hge, hmd]; omega
    have ex : exW (L * bn + q) = L := by unfold exW; rw [hd]; omega
    unfold V
    rw [em, ex]

theorem rd_V (x : Nat) : rdW (V x) = x := by
  by_cases h0 : x = 0
  · subst h0; simp [rdW, V, magW]
  by_cases c : x < bn
  · have e : V x = x := by unfold V magW exW; rw [if_pos c, Nat.div_eq_of_lt c]; simp
    have hl : x.log2 ≤ 52 := log2_lt53 (Nat.lt_trans c (by decide)) h0
    rw [e]
    unfold rdW
    rw [if_neg h0, show x.log2 - 52 = 0 by omega, rne_zero]
    omega
  · have hm : magW x = bn + x % bn := by unfold magW; rw [if_neg c]
    have hml := mag_lt x
    have hmn : magW x ≠ 0 := by omega
    have hlog : (magW x).log2 = 52 := by
      have a := log2_lt53 (show magW x < 2 ^ 53 from hml) hmn
      have b : 52 ≤ (magW x).log2 := by
        rw [Nat.le_log2 hmn]
        show bn ≤ magW x
        omega
      omega
    have hV : V x ≠ 0 := Nat.mul_ne_zero hmn (by have := Nat.two_pow_pos (exW x); omega)
    unfold rdW
    rw [if_neg hV]
    have : (V x).log2 - 52 = exW x := by
      unfold V; rw [log2_mul _ _ hmn]; omega
    rw [this]
    unfold V
    rw [rne_exact, hm]
    unfold exW
    have h1 : 1 ≤ x / bn := by rw [Nat.le_div_iff_mul_le (by decide)]; omega
    have h2 := Nat.div_add_mod x bn
    have h3 : (x / bn - 1) * bn + bn = x / bn * bn := by
      rw [← Nat.succ_mul]; congr 1; omega
    have h4 := Nat.mul_comm bn (x / bn)
    omega

theorem V_lt {x y : Nat} (h : x < y) : V x < V y := by
  apply Classical.byContradiction
  intro hn
  have := rd_mono (show V y ≤ V x by omega)
  rw [rd_V, rd_V] at this
  omega
theorem V_le {x y : Nat} (h : x ≤ y) : V x ≤ V y := by
  rcases Nat.lt_or_eq_of_le h with a | a
  · exact Nat.le_of_lt (V_lt a)
  · rw [a]; exact Nat.le_refl _
end Go.Proofs.Qxb6628650a
