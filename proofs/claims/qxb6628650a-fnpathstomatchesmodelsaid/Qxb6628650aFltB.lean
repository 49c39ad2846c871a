/-
  FLOATS, second part (seat b6628650a): the model's addition and order over words that are not negative.
-/
import Derived.Test.Qxb6628650aFlt
namespace Go.Proofs.Qxb6628650a
open Ieee
set_option linter.unusedVariables false

abbrev LP : Int := -1074
abbrev SW : Nat := 9223372036854775808
theorem d_binade : double.binade = bn := by decide
theorem d_inf : double.infRung = infW := by decide
theorem d_sign : double.signWeight = SW := by decide
theorem d_lp : double.leastPlace = LP := by decide

theorem inf_lt : infW < SW := by decide

theorem read_fin {x : Nat} (h : x < infW) : double.read x = .number false (magW x) (LP + exW x) := by
  unfold Format.read
  rw [d_binade, d_inf, d_sign, d_lp]
  have hIS := inf_lt
  have h1 : x / SW = 0 := Nat.div_eq_of_lt (by omega)
  have h2 : x % SW = x := Nat.mod_eq_of_lt (by omega)
  simp only [h1, h2]
  by_cases c : x < bn
  · rw [if_pos c]
    unfold magW exW
    rw [if_pos c, Nat.div_eq_of_lt c]
    rfl
  · rw [if_neg c, if_pos h]
    unfold magW exW
    rw [if_neg c]
    rfl
theorem read_inf : double.read infW = .infinity false := by decide

theorem nearest_is (m e : Nat) : double.nearest false m (LP + e) = min (rdW (m * 2 ^ e)) infW := by
  unfold Format.nearest
  rw [d_lp, d_binade, d_inf]
  by_cases h0 : m = 0
  · subst h0; simp [rdW, Format.word]
  rw [if_neg h0]
  have hW : m * 2 ^ e ≠ 0 := Nat.mul_ne_zero h0 (by have := Nat.two_pow_pos e; omega)
  have hl := log2_mul m e h0
  have hfb : (double.fractionBits : Int) = 52 := rfl
  simp only [hfb, cut_rne, Nat.shiftLeft_eq]
  obtain ⟨lg, hlg⟩ : ∃ lg, m.log2 = lg := ⟨_, rfl⟩
  rw [hlg] at hl ⊢
  unfold rdW Format.word
  rw [if_neg hW, hl]
  simp only [Bool.false_eq_true, if_false]
  obtain ⟨last, hlast⟩ : ∃ last : Int, max (LP + (e : Int) + (lg : Int) - 52) LP = last := ⟨_, rfl⟩
  rw [hlast]
  have e1 : (last - LP).toNat = lg + e - 52 := by omega
  rw [e1]
  congr 2
  by_cases c : e ≤ lg + e - 52
  · have a : (LP + (e : Int) - last).toNat = 0 := by omega
    have b : (last - (LP + (e : Int))).toNat = lg + e - 52 - e := by omega
    rw [a, b, Nat.pow_zero, Nat.mul_one]
    have := rne_scale m (lg + e - 52 - e) e
    rw [show lg + e - 52 - e + e = lg + e - 52 by omega] at this
    exact this.symm
  · have a : (LP + (e : Int) - last).toNat = e - (lg + e - 52) := by omega
    have b : (last - (LP + (e : Int))).toNat = 0 := by omega
    rw [a, b]
    have := rne_scale (m * 2 ^ (e - (lg + e - 52))) 0 (lg + e - 52)
    rw [Nat.zero_add, Nat.mul_assoc, ← Nat.pow_add, show e - (lg + e - 52) + (lg + e - 52) = e by omega] at this
    exact this.symm

theorem sum_fin (m n i j : Nat) : Datum.sum (.number false m (LP + i)) (.number false n (LP + j)) = some (.number false (m * 2 ^ (i - min i j) + n * 2 ^ (j - min i j)) (LP + (min i j : Nat))) := by
  unfold Datum.sum
  have hb : min (LP + (i : Int)) (LP + (j : Int)) = LP + ((min i j : Nat) : Int) := by omega
  simp only [hb, signed, Nat.shiftLeft_eq, Bool.false_eq_true, if_false]
  have a : (LP + (i : Int) - (LP + ((min i j : Nat) : Int))).toNat = i - min i j := by omega
  have b : (LP + (j : Int) - (LP + ((min i j : Nat) : Int))).toNat = j - min i j := by omega
  rw [a, b]
  obtain ⟨T, hT⟩ : ∃ T : Nat, m * 2 ^ (i - min i j) + n * 2 ^ (j - min i j) = T := ⟨_, rfl⟩
  have hc : ((m * 2 ^ (i - min i j) : Nat) : Int) + ((n * 2 ^ (j - min i j) : Nat) : Int) = ((T : Nat) : Int) := by rw [← hT]; rfl
  rw [hc, hT]
  congr 2
  · have : decide ((T : Int) < 0) = false := decide_eq_false (by omega)
    split
    · rfl
    · exact this

theorem add_fin {x y : Nat} (hx : x < infW) (hy : y < infW) : double.add x y = some (addF x y) := by
  unfold Format.add
  rw [read_fin hx, read_fin hy, sum_fin]
  simp only [Option.map_some, Format.write]
  rw [nearest_is]
  congr 3
  unfold V
  rw [Nat.add_mul, Nat.mul_assoc, Nat.mul_assoc, ← Nat.pow_add, ← Nat.pow_add, Nat.sub_add_cancel (Nat.min_le_left _ _), Nat.sub_add_cancel (Nat.min_le_right _ _)]

theorem cmp_V (x y : Nat) : compare (V x) (V y) = compare x y := by
  rcases Nat.lt_trichotomy x y with h | h | h
  · rw [Nat.compare_eq_lt.2 h, Nat.compare_eq_lt.2 (V_lt h)]
  · subst h; rw [Nat.compare_eq_eq.2 rfl, Nat.compare_eq_eq.2 rfl]
  · rw [Nat.compare_eq_gt.2 h, Nat.compare_eq_gt.2 (V_lt h)]

theorem cmp_scale (m n i j : Nat) : compare ((m * 2 ^ (i - min i j) : Nat) : Int) ((n * 2 ^ (j - min i j) : Nat) : Int) = compare (m * 2 ^ i) (n * 2 ^ j) := by
  have hp : 0 < 2 ^ (min i j) := Nat.two_pow_pos _
  have e1 : m * 2 ^ i = m * 2 ^ (i - min i j) * 2 ^ (min i j) := by rw [Nat.mul_assoc, ← Nat.pow_add, Nat.sub_add_cancel (Nat.min_le_left _ _)]
  have e2 : n * 2 ^ j = n * 2 ^ (j - min i j) * 2 ^ (min i j) := by rw [Nat.mul_assoc, ← Nat.pow_add, Nat.sub_add_cancel (Nat.min_le_right _ _)]
  rw [e1, e2]
  generalize m * 2 ^ (i - min i j) = a
  generalize n * 2 ^ (j - min i j) = b
  generalize 2 ^ (min i j) = p at hp
  rcases Nat.lt_trichotomy a b with h | h | h
  · rw [Nat.compare_eq_lt.2 (Nat.mul_lt_mul_of_pos_right h hp), Int.compare_eq_lt.2 (by omega)]
  · subst h; rw [Nat.compare_eq_eq.2 rfl, Int.compare_eq_eq.2 rfl]
  · rw [Nat.compare_eq_gt.2 (Nat.mul_lt_mul_of_pos_right h hp), Int.compare_eq_gt.2 (by omega)]

theorem order_is {x y : Nat} (hx : x ≤ infW) (hy : y ≤ infW) : double.order x y = some (compare x y) := by
  unfold Format.order
  by_cases cx : x < infW
  · by_cases cy : y < infW
    · rw [read_fin cx, read_fin cy]
      unfold Datum.order
      have hb : min (LP + (exW x : Int)) (LP + (exW y : Int)) = LP + ((min (exW x) (exW y) : Nat) : Int) := by omega
      simp only [hb, signed, Nat.shiftLeft_eq, Bool.false_eq_true, if_false]
      have a : (LP + (exW x : Int) - (LP + ((min (exW x) (exW y) : Nat) : Int))).toNat = exW x - min (exW x) (exW y) := by omega
      have b : (LP + (exW y : Int) - (LP + ((min (exW x) (exW y) : Nat) : Int))).toNat = exW y - min (exW x) (exW y) := by omega
      rw [a, b, cmp_scale]
      congr 1
      exact cmp_V x y
    · obtain rfl : y = infW := by omega
      rw [read_fin cx, read_inf, Nat.compare_eq_lt.2 cx]
      rfl
  · obtain rfl : x = infW := by omega
    by_cases cy : y < infW
    · rw [read_fin cy, read_inf, Nat.compare_eq_gt.2 cy]
      rfl
    · obtain rfl : y = infW := by omega
      rw [Nat.compare_eq_eq.2 rfl]
      decide

theorem ord_lt {x y : Nat} (hx : x ≤ infW) (hy : y ≤ infW) : (double.order x y == some .lt) = decide (x < y) := by
  rw [order_is hx hy, Bool.eq_iff_iff, beq_iff_eq, decide_eq_true_iff, Option.some.injEq, Nat.compare_eq_lt]
theorem ord_gt {x y : Nat} (hx : x ≤ infW) (hy : y ≤ infW) : (double.order x y == some .gt) = decide (y < x) := by
  rw [order_is hx hy, Bool.eq_iff_iff, beq_iff_eq, decide_eq_true_iff, Option.some.injEq, Nat.compare_eq_gt]
theorem ord_eq {x y : Nat} (hx : x ≤ infW) (hy : y ≤ infW) : (double.order x y == some .eq) = decide (x = y) := by
  rw [order_is hx hy, Bool.eq_iff_iff, beq_iff_eq, decide_eq_true_iff, Option.some.injEq, Nat.compare_eq_eq]

/-! ## What the search needs of addition -/
theorem addF_mono {x y : Nat} (h : x ≤ y) (k : Nat) : addF x k ≤ addF y k := by
  have := rd_mono (Nat.add_le_add_right (V_le h) (V k))
  unfold addF; omega

theorem V_succ (x : Nat) : V (x + 1) = V x + 2 ^ exW x := by
  have hb : 0 < bn := by decide
  by_cases c : x + 1 < bn
  · have a : V x = x := by unfold V magW exW; rw [if_pos (by omega), Nat.div_eq_of_lt (by omega)]; simp
    have b : V (x + 1) = x + 1 := by unfold V magW exW; rw [if_pos c, Nat.div_eq_of_lt c]; simp
    have d : exW x = 0 := by unfold exW; rw [Nat.div_eq_of_lt (by omega)]
    rw [a, b, d, Nat.pow_zero]
  · by_cases c2 : x + 1 = bn
    · have a : V x = x := by unfold V magW exW; rw [if_pos (by omega), Nat.div_eq_of_lt (by omega)]; simp
      have d : exW x = 0 := by unfold exW; rw [Nat.div_eq_of_lt (by omega)]
      have b : V (x + 1) = bn := by rw [c2]; unfold V magW exW; simp
      rw [a, b, d, Nat.pow_zero]; omega
    · have h1 : 1 ≤ x / bn := by rw [Nat.le_div_iff_mul_le hb]; omega
      have dm := Nat.div_add_mod x bn
      have ml := Nat.mod_lt x hb
      have mx : magW x = bn + x % bn := by unfold magW; rw [if_neg (by omega)]
      have my : magW (x + 1) = bn + (x + 1) % bn := by unfold magW; rw [if_neg (by omega)]
      by_cases c3 : x % bn + 1 < bn
      · have e1 : (x + 1) / bn = x / bn := by
          rw [Nat.div_eq_iff hb]; rw [Nat.mul_comm]; omega
        have e2 : (x + 1) % bn = x % bn + 1 := by
          have := Nat.div_add_mod (x + 1) bn
          rw [e1] at this; omega
        unfold V
        rw [mx, my, e2]
        unfold exW
        rw [e1, ← Nat.add_assoc, Nat.add_mul]
        congr 1
        omega
      · have e1 : (x + 1) / bn = x / bn + 1 := by
          rw [Nat.div_eq_iff hb]
          rw [Nat.add_mul, Nat.mul_comm]; omega
        have e2 : (x + 1) % bn = 0 := by
          have := Nat.div_add_mod (x + 1) bn
          rw [e1, Nat.mul_add] at this; omega
        unfold V
        rw [mx, my, e2]
        unfold exW
        rw [e1]
        obtain ⟨q, hq⟩ : ∃ q, x / bn = q + 1 := ⟨x / bn - 1, by omega⟩
        rw [hq]
        simp only [Nat.add_sub_cancel]
        rw [Nat.pow_succ, Nat.add_zero, show bn + x % bn = 2 * bn - 1 by omega]
        have hp := Nat.two_pow_pos q
        rw [Nat.sub_mul]
        have : 2 * bn * 2 ^ q = bn * (2 ^ q * 2) := by rw [Nat.mul_comm 2 bn, Nat.mul_assoc, Nat.mul_comm 2]
        have h2 : 1 * 2 ^ q ≤ 2 * bn * 2 ^ q := Nat.mul_le_mul_right _ (by decide)
        omega

/-- 2^-20 and 2^20. -/
abbrev minW : Nat := 4517110426252607488
abbrev maxW : Nat := 4697254411347427328
def U : Nat := 2 ^ 1094
def Mn : Nat := 2 ^ 1054
theorem V_min : V minW = Mn := by decide +kernel
theorem V_max : V maxW = U := by decide +kernel
theorem V_inf : 1000 * U < V infW := by decide +kernel

set_option exponentiation.threshold 3000 in
theorem ex_bd {x : Nat} (h : V x ≤ 1000 * U) : 2 ^ exW x ≤ Mn := by
  by_cases c : exW x = 0
  · rw [c]; decide +kernel
  · have hm : bn ≤ magW x := by
      unfold magW
      by_cases d : x < bn
      · exfalso; apply c; unfold exW; rw [Nat.div_eq_of_lt d]
      · rw [if_neg d]; omega
    unfold Mn
    refine Nat.pow_le_pow_right (by decide) ?_
    apply Classical.byContradiction
    intro hn
    have h1 : 2 ^ 1055 ≤ 2 ^ exW x := Nat.pow_le_pow_right (by decide) (by omega)
    have h2 : bn * 2 ^ 1055 ≤ V x := Nat.mul_le_mul hm h1
    have h3 : 1000 * U < bn * 2 ^ 1055 := by decide +kernel
    exact absurd (Nat.lt_of_lt_of_le h3 h2) (by omega)

/-- Adding a length makes greater. -/
theorem addF_gt {x k : Nat} (hx : V x ≤ 1000 * U) (hk : minW ≤ k) (hi : x < infW) : x < addF x k := by
  have a := V_le hk
  rw [V_min] at a
  have b := ex_bd hx
  have c : V (x + 1) ≤ V x + V k := by rw [V_succ]; omega
  have d := rd_mono c
  rw [rd_V] at d
  unfold addF
  omega
theorem addF_bd {x k i : Nat} (hx : V x ≤ i * U) (hk : k ≤ maxW) (hi : i ≤ 1000) : V (addF x k) ≤ (i + 1) * U := by
  have a := V_le hk
  rw [V_max] at a
  have b : V x + V k ≤ (i + 1) * U := by rw [Nat.add_mul, Nat.one_mul]; omega
  have c := rd_mono b
  have d := V_rd (i + 1) 1094 (Nat.lt_of_le_of_lt (Nat.add_le_add_right hi 1) (by decide))
  have e : V (addF x k) ≤ V (rdW ((i + 1) * U)) := V_le (by unfold addF; omega)
  unfold U at e ⊢
  rw [d] at e
  exact e
theorem fin_of {x i : Nat} (hx : V x ≤ i * U) (hi : i ≤ 1000) : x < infW := by
  apply Classical.byContradiction
  intro hn
  have a := V_le (show infW ≤ x by omega)
  have b := V_inf
  have c : i * U ≤ 1000 * U := Nat.mul_le_mul_right _ hi
  omega
end Go.Proofs.Qxb6628650a
