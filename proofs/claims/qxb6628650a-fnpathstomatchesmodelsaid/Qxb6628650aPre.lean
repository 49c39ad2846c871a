/-
  THE ARGUMENTS READ, the bounds on lengths, the premise (seat b6628650a).
-/
import Derived.Test.Qxb6628650aSea
namespace Go.Proofs.Qxb6628650a
open Go.RowKit
set_option linter.unusedVariables false
attribute [local go_sem ↓] Go.wp_at_zero Go.wp_at_succ

/-- The slice v, of one-cell elements, reads as f 0, f 1, .. -/
def Rd1 (w : World) (v : Value) (n : Nat) (f : Nat → Value) : Prop :=
  ∃ a cap, v = .slice a n cap ∧ ∀ i, i < n → ∃ b off, a = some ⟨b, off, none⟩ ∧ b < w.heap.size ∧ w.cell? ⟨b, off + i, none⟩ = some (f i)
theorem Rd1.later {w w' : World} {v : Value} {n : Nat} {f : Nat → Value} (h : Rd1 w v n f) (hb : Below w.heap.size w w') : Rd1 w' v n f := by
  obtain ⟨a, cap, e, k⟩ := h
  refine ⟨a, cap, e, fun i hi => ?_⟩
  obtain ⟨b, off, e1, e2, e3⟩ := k i hi
  exact ⟨b, off, e1, Nat.lt_of_lt_of_le e2 hb.size, cell_later hb e3⟩

/-! The order at whatever word. -/
theorem read_top {x : Nat} (h : SW ≤ x) (h2 : x < 18446744073709551616) : (Ieee.double.read x).neg = true ∨ (Ieee.double.read x).isNaN = true := by
  unfold Ieee.Format.read
  rw [d_binade, d_inf, d_sign, d_lp]
  have h1 : x / SW % 2 = 1 := by
    have eS : SW = 9223372036854775808 := rfl
    have : x / SW = 1 := by rw [Nat.div_eq_iff (by decide)]; omega
    rw [this]
  simp only [h1]
  left
  split
  · rfl
  · split
    · rfl
    · split <;> rfl
theorem order_top {x c : Nat} (h : SW ≤ x) (h2 : x < 18446744073709551616) (hc : c < infW) (hc0 : 0 < magW c) : Ieee.double.order x c ≠ some .gt ∧ Ieee.double.order x c ≠ some .eq := by
  unfold Ieee.Format.order
  rw [read_fin hc]
  rcases read_top h h2 with a | a
  · cases hr : Ieee.double.read x with
    | number s m i =>
      rw [hr] at a
      simp only [Ieee.Datum.neg] at a
      subst a
      unfold Ieee.Datum.order
      simp only [Ieee.signed, if_true, Bool.false_eq_true, if_false, Nat.shiftLeft_eq]
      have hp : 0 < magW c * 2 ^ (LP + (exW c : Int) - min i (LP + (exW c : Int))).toNat := Nat.mul_pos hc0 (Nat.two_pow_pos _)
      have : compare (-((m * 2 ^ (i - min i (LP + (exW c : Int))).toNat : Nat) : Int)) ((magW c * 2 ^ (LP + (exW c : Int) - min i (LP + (exW c : Int))).toNat : Nat) : Int) = .lt := by
        rw [Int.compare_eq_lt]; omega
      rw [this]
      exact ⟨by simp, by simp⟩
    | infinity s =>
      rw [hr] at a
      simp only [Ieee.Datum.neg] at a
      subst a
      exact ⟨by simp [Ieee.Datum.order], by simp [Ieee.Datum.order]⟩
    | nan s t => exact ⟨by simp [Ieee.Datum.order], by simp [Ieee.Datum.order]⟩
  · cases hr : Ieee.double.read x with
    | nan s t => exact ⟨by simp [Ieee.Datum.order], by simp [Ieee.Datum.order]⟩
    | number s m i => rw [hr] at a; simp [Ieee.Datum.isNaN] at a
    | infinity s => rw [hr] at a; simp [Ieee.Datum.isNaN] at a
theorem order_nan {x c : Nat} (h : infW < x) (h2 : x < SW) : Ieee.double.order x c = none := by
  unfold Ieee.Format.order
  have : ∃ s t, Ieee.double.read x = .nan s t := by
    unfold Ieee.Format.read
    rw [d_binade, d_inf, d_sign, d_lp]
    have e2 : x % SW = x := Nat.mod_eq_of_lt h2
    have hbi : bn < infW := by decide
    simp only [e2]
    rw [if_neg (by omega), if_neg (by omega), if_neg (by omega)]
    exact ⟨_, _, rfl⟩
  obtain ⟨s, t, e⟩ := this
  rw [e]; rfl
/-- What the premise asks of a length. -/
theorem km_ok {x : Nat} (h64 : x < 18446744073709551616) (h1 : (Ieee.double.order x minW == some .gt || Ieee.double.order x minW == some .eq) = true) (h2 : (Ieee.double.order x maxW == some .lt || Ieee.double.order x maxW == some .eq) = true) : minW ≤ x ∧ x ≤ maxW := by
  have hmi : minW < infW := by decide
  have hma : maxW < infW := by decide
  by_cases c : x ≤ infW
  · rw [ord_gt c (Nat.le_of_lt hmi), ord_eq c (Nat.le_of_lt hmi), Bool.or_eq_true, decide_eq_true_iff, decide_eq_true_iff] at h1
    rw [ord_lt c (Nat.le_of_lt hma), ord_eq c (Nat.le_of_lt hma), Bool.or_eq_true, decide_eq_true_iff, decide_eq_true_iff] at h2
    omega
  · exfalso
    by_cases d : x < SW
    · rw [order_nan (by omega) d] at h1
      simp at h1
    · have := order_top (x := x) (c := minW) (by omega) h64 hmi (by decide)
      rw [Bool.or_eq_true, beq_iff_eq, beq_iff_eq] at h1
      rcases h1 with a | a
      · exact this.1 a
      · exact this.2 a

def FitPost (e : Ending) : Prop := ∃ b : Bool, e = .returned (.bool b)
theorem FitPost.is {e : Ending} {b : Bool} (h : e = .returned (.bool b)) : FitPost e := ⟨b, h⟩

set_option maxRecDepth 100000 in
set_option maxHeartbeats 1000000 in
theorem fit_any (v : Value) (n wd : Nat) (lab : Nat → ByteArray) (w : World) (h : Rd1 w v n (fun i => .string (lab i))) (hn : n ≤ 1048576) (hw : wd ≤ 100000) (hs : ∀ i, i < n → (lab i).size ≤ 1048576) :
    Calls Try.prog 6 #[v, .int .i64 wd] w fun e w' => FitPost e ∧ w' = w := by
  obtain ⟨a, cap, rfl, k⟩ := h
  have K := hide k
  have HS := hide hs
  clear k hs
  by_cases h0 : 8 * wd ≤ 1048576
  · go_enter Try.func6, Try.ntmps6
    go_wp2_with fail
    go_loopg [5, 6] n (fun gg t i wr => w = wr ∧ ∃ (k s : Nat), gg = n - k ∧ k ≤ n ∧ t = .int .i64 s ∧ s ≤ 1048576 ∧ i = .int .i64 k)
    case atStart => exact ⟨rfl, 0, 8 * wd, by omega, by omega, by go_num, h0, rfl⟩
    case round =>
      obtain ⟨rfl, k, s, hgg, hk, rfl, hs1, rfl⟩ := hrel
      have HG := hide hgg
      clear hgg
      by_cases hlt : k < n
      · obtain ⟨b, off, rfl, hb, hc⟩ := K.out k hlt
        have hsz := HS.out k hlt
        have i1 : (0 : Int) ≤ (k : Int) := by omega
        have i2 : (k : Int) < (n : Int) := by omega
        generalize lab k = x at *
        by_cases h2 : s + (16 + x.size) ≤ 1048576
        · go_wp2_with fail
          go_roundg (n - (k + 1))
          case measure => rw [HG.out]; omega
          case rel => exact ⟨rfl, k + 1, s + (16 + x.size), rfl, by omega, by go_num, h2, by go_num⟩
        · go_wp2_with fail
          go_ret
          exact ⟨.is rfl, rfl⟩
      · go_wp2_with fail
        go_ret
        exact ⟨.is rfl, rfl⟩
  · exfalso; omega

/-- What the premise says. -/
structure Pr (n m lt lk : Nat) (fr tt : Nat → Int) (km : Nat → Nat) (en : Int) : Prop where
  hn : n ≤ 256
  hm : m ≤ 4096
  hlt : lt = m
  hlk : lk = m
  e0 : 0 ≤ en
  e1 : en < n
  l : ∀ j, j < m → 0 ≤ fr j ∧ fr j < n ∧ 0 ≤ tt j ∧ tt j < n ∧ fr j ≠ tt j ∧ minW ≤ km j ∧ km j ≤ maxW
def PrPost (n m lt lk : Nat) (fr tt : Nat → Int) (km : Nat → Nat) (en : Int) (e : Ending) : Prop := (e = .returned (.bool true) ∧ Pr n m lt lk fr tt km en) ∨ e = .returned (.bool false)
theorem PrPost.no {n m lt lk : Nat} {fr tt : Nat → Int} {km : Nat → Nat} {en : Int} {e : Ending} (h : e = .returned (.bool false)) : PrPost n m lt lk fr tt km en e := .inr h

set_option maxRecDepth 100000 in
set_option maxHeartbeats 4000000 in
theorem prem_any (v0 v1 v2 v3 : Value) (n m lt lk : Nat) (lab : Nat → ByteArray) (fr tt : Nat → Int) (km : Nat → Nat) (en : Int) (w : World) (h0 : Rd1 w v0 n (fun i => .string (lab i))) (h1 : Rd1 w v1 m (fun i => .int .i64 (fr i))) (h2 : Rd1 w v2 lt (fun i => .int .i64 (tt i))) (h3 : Rd1 w v3 lk (fun i => .float .f64 (km i)))
    (ln : n ≤ 1048576) (lm : m ≤ 1048576) (llt : lt ≤ 1048576) (llk : lk ≤ 1048576) (hs : ∀ i, i < n → (lab i).size ≤ 1048576) (h64 : ∀ i, i < lk → km i < 18446744073709551616) :
    Calls Try.prog 7 #[v0, v1, v2, v3, .int .i64 en] w fun e w' => PrPost n m lt lk fr tt km en e ∧ Below w.heap.size w w' := by
  obtain ⟨a0, c0, rfl, k0⟩ := id h0
  obtain ⟨a1, c1, rfl, k1⟩ := id h1
  obtain ⟨a2, c2, rfl, k2⟩ := id h2
  obtain ⟨a3, c3, rfl, k3⟩ := id h3
  have K1 := hide k1
  have K2 := hide k2
  have K3 := hide k3
  have H64 := hide h64
  have HSz := hide hs
  clear k0 k1 k2 k3 h64 hs
  go_enter Try.func7, Try.ntmps7
  by_cases b0 : n ≤ 256
  case neg => go_wp2_with fail; go_ret; exact ⟨.no rfl, Below.refl _ _⟩
  by_cases b1 : m ≤ 4096
  case neg => go_wp2_with fail; go_ret; exact ⟨.no rfl, Below.refl _ _⟩
  by_cases b2 : lt ≤ 4096
  case neg => go_wp2_with fail; go_ret; exact ⟨.no rfl, Below.refl _ _⟩
  by_cases b3 : lk ≤ 4096
  case neg => go_wp2_with fail; go_ret; exact ⟨.no rfl, Below.refl _ _⟩
  have HFit := hide (fit_any _ n (m + lt + lk) lab w h0 (by omega) (by omega) HSz.out)
  go_wp2_with fail
  refine HFit.out.mono ?_
  rintro e wf ⟨⟨bf, rfl⟩, rfl⟩
  cases bf with
  | false => go_wp2_with fail; go_ret; exact ⟨.no rfl, Below.refl _ _⟩
  | true =>
    by_cases c1 : lt = m
    case neg =>
      have hb : ((lt : Int) != (m : Int)) = true := by simp; omega
      go_wp2_with fail; go_ret; exact ⟨.no rfl, Below.refl _ _⟩
    by_cases c2 : lk = m
    case neg =>
      have hb : ((lt : Int) != (m : Int)) = false := by simp; omega
      have hb2 : ((lk : Int) != (m : Int)) = true := by simp; omega
      clear c1
      go_wp2_with fail; go_ret; exact ⟨.no rfl, Below.refl _ _⟩
    subst c1
    subst c2
    have hb : ((lk : Int) != (lk : Int)) = false := by simp
    by_cases c3 : 0 ≤ en
    case neg => go_wp2_with fail; go_ret; exact ⟨.no rfl, Below.refl _ _⟩
    by_cases c4 : en < n
    case neg => go_wp2_with fail; go_ret; exact ⟨.no rfl, Below.refl _ _⟩
    go_wp2_with fail
    go_loopg [13] lk (fun gg i wr => ∃ k : Nat, gg = lk - k ∧ k ≤ lk ∧ i = .int .i64 k ∧ Below wf.heap.size wf wr ∧ ∀ j, j < k → 0 ≤ fr j ∧ fr j < n ∧ 0 ≤ tt j ∧ tt j < n ∧ fr j ≠ tt j ∧ minW ≤ km j ∧ km j ≤ maxW)
    case atStart => exact ⟨0, by omega, by omega, rfl, Below.refl _ _, fun j hj => by omega⟩
    case round =>
      obtain ⟨k, hgg, hk, rfl, br, hall⟩ := hrel
      have HG := hide hgg
      have HA := hide hall
      clear hgg hall
      by_cases hlt : k < lk
      · obtain ⟨x1, o1, rfl, hx1, y1⟩ := K1.out k hlt
        obtain ⟨x2, o2, rfl, hx2, y2⟩ := K2.out k hlt
        obtain ⟨x3, o3, rfl, hx3, y3⟩ := K3.out k hlt
        have z1 := cell_later br y1
        have z2 := cell_later br y2
        have z3 := cell_later br y3
        have h64 := H64.out k hlt
        have HStep := hide (show (0 ≤ fr k ∧ fr k < n ∧ 0 ≤ tt k ∧ tt k < n ∧ fr k ≠ tt k ∧ minW ≤ km k ∧ km k ≤ maxW) → ∀ j, j < k + 1 → 0 ≤ fr j ∧ fr j < n ∧ 0 ≤ tt j ∧ tt j < n ∧ fr j ≠ tt j ∧ minW ≤ km j ∧ km j ≤ maxW from fun hh j hj => by
          by_cases c : j = k
          · rw [c]; exact hh
          · exact HA.out j (by omega))
        clear y1 y2 y3
        generalize fr k = f at *
        generalize tt k = t at *
        generalize km k = x at *
        have i1 : (0 : Int) ≤ (k : Int) := by omega
        have i2 : (k : Int) < (lk : Int) := by omega
        obtain ⟨bad, hbad⟩ : ∃ bad : Bool, bad = true ↔ ¬ (0 ≤ f ∧ f < n ∧ 0 ≤ t ∧ t < n ∧ f ≠ t) := by
          by_cases c : (0 ≤ f ∧ f < n ∧ 0 ≤ t ∧ t < n ∧ f ≠ t)
          · exact ⟨false, by simp [c]⟩
          · exact ⟨true, by simp only [true_iff]; exact c⟩
        have HBad := hide hbad
        clear hbad
        go_upto_region 14 with fail
        go_cut [107] (fun bb wx => bb = .bool bad ∧ Below wr.heap.size wr wx)
        case first =>
          by_cases d1 : f < 0
          · obtain rfl : bad = true := HBad.out.2 (by omega)
            go_quiet (fail)
            go_wp2_with fail
            go_meet
            case rel => exact ⟨rfl, below_drewN (Below.refl _ _) _⟩
          · by_cases d2 : f < n
            · by_cases d3 : t < 0
              · obtain rfl : bad = true := HBad.out.2 (by omega)
                have e1 : decide (f < 0) = false := decide_eq_false d1
                have e2 : decide ((n : Int) ≤ f) = false := decide_eq_false (by omega)
                have e3 : decide (t < 0) = true := decide_eq_true d3
                go_quiet (fail)
                go_wp2_with fail
                go_meet
                case rel => exact ⟨rfl, below_drewN (Below.refl _ _) _⟩
              · by_cases d4 : t < n
                · by_cases d5 : f = t
                  · obtain rfl : bad = true := HBad.out.2 (by omega)
                    have hft : (f == t) = true := by simp [d5]
                    have e1 : decide (f < 0) = false := decide_eq_false d1
                    have e2 : decide ((n : Int) ≤ f) = false := decide_eq_false (by omega)
                    have e3 : decide (t < 0) = false := decide_eq_false d3
                    have e4 : decide ((n : Int) ≤ t) = false := decide_eq_false (by omega)
                    clear d5
                    go_quiet (fail)
                    go_wp2_with fail
                    go_meet
                    case rel => exact ⟨rfl, below_drewN (Below.refl _ _) _⟩
                  · obtain rfl : bad = false := by
                      cases bad
                      · rfl
                      · exact absurd ⟨by omega, by omega, by omega, by omega, d5⟩ (HBad.out.1 rfl)
                    have hft : (f == t) = false := by simp [d5]
                    have e1 : decide (f < 0) = false := decide_eq_false d1
                    have e2 : decide ((n : Int) ≤ f) = false := decide_eq_false (by omega)
                    have e3 : decide (t < 0) = false := decide_eq_false d3
                    have e4 : decide ((n : Int) ≤ t) = false := decide_eq_false (by omega)
                    clear d5
                    go_quiet (fail)
                    go_wp2_with fail
                    go_meet
                    case rel => exact ⟨rfl, below_drewN (Below.refl _ _) _⟩
                · obtain rfl : bad = true := HBad.out.2 (by omega)
                  have e1 : decide (f < 0) = false := decide_eq_false d1
                  have e2 : decide ((n : Int) ≤ f) = false := decide_eq_false (by omega)
                  have e3 : decide (t < 0) = false := decide_eq_false d3
                  have e4 : decide ((n : Int) ≤ t) = true := decide_eq_true (by omega)
                  go_quiet (fail)
                  go_wp2_with fail
                  go_meet
                  case rel => exact ⟨rfl, below_drewN (Below.refl _ _) _⟩
            · obtain rfl : bad = true := HBad.out.2 (by omega)
              have e1 : decide (f < 0) = false := decide_eq_false d1
              have e2 : decide ((n : Int) ≤ f) = true := decide_eq_true (by omega)
              go_quiet (fail)
              go_wp2_with fail
              go_meet
              case rel => exact ⟨rfl, below_drewN (Below.refl _ _) _⟩
        case rest =>
          obtain ⟨rfl, hbd⟩ := hcut
          have u3 := cell_later hbd z3
          have br2 := br.trans (hbd.mono br.size)
          clear z1 z2 z3 br hbd
          cases bad with
          | true =>
            go_upto_if 107 with fail
            go_wp2_with fail
            go_ret
            exact ⟨.no rfl, br2⟩
          | false =>
            have HOk := hide (show 0 ≤ f ∧ f < n ∧ 0 ≤ t ∧ t < n ∧ f ≠ t from by
              apply Classical.byContradiction
              intro hh
              have := HBad.out.2 hh
              cases this)
            cases g1 : (FloatKind.f64.format.order x minW == some .gt || FloatKind.f64.format.order x minW == some .eq)
            · go_upto_if 107 with fail
              go_wp2_with fail
              go_ret
              exact ⟨.no rfl, br2⟩
            · cases g2 : (FloatKind.f64.format.order x maxW == some .lt || FloatKind.f64.format.order x maxW == some .eq)
              · go_upto_if 107 with fail
                go_wp2_with fail
                go_ret
                exact ⟨.no rfl, br2⟩
              · have HKm := hide (km_ok h64 g1 g2)
                go_upto_if 107 with fail
                go_wp2_with fail
                go_roundg (lk - (k + 1))
                case measure => rw [HG.out]; omega
                case rel => exact ⟨k + 1, rfl, by omega, by go_num, br2, HStep.out ⟨HOk.out.1, HOk.out.2.1, HOk.out.2.2.1, HOk.out.2.2.2.1, HOk.out.2.2.2.2, HKm.out.1, HKm.out.2⟩⟩
      · obtain rfl : k = lk := by omega
        go_wp2_with fail
        go_ret
        exact ⟨.inl ⟨rfl, b0, b1, rfl, rfl, c3, c4, HA.out⟩, br⟩
end Go.Proofs.Qxb6628650a
