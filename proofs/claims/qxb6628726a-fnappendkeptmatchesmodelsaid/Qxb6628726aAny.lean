/-
  keptAny (seat b6628726a): the closed form of 'something is kept'.
-/
import Derived.Test.Qxb6628726aPrem
namespace Go.Proofs.Qxb6628726a
open Go.RowKit
set_option linter.unusedVariables false

/-- Something is kept at t. -/
def AnyK (uw cw sr : List (Int × Int)) (t : Int) : Prop :=
  0 < sr.length ∧ ((∃ i, i < uw.length ∧ t - (sr.getD (sr.length - 1) (0, 0)).1 < (uw.getD i (0, 0)).2) ∨ ∃ i, i < cw.length ∧ 1 ≤ (cw.getD i (0, 0)).1 ∧ t - (sr.getD (sr.length - 1) (0, 0)).1 < (cw.getD i (0, 0)).2)
def AnyPost (uw cw sr : List (Int × Int)) (t : Int) (e : Ending) : Prop := (e = .returned (.bool true) ∧ AnyK uw cw sr t) ∨ (e = .returned (.bool false) ∧ ¬ AnyK uw cw sr t)
theorem AnyPost.yes {uw cw sr : List (Int × Int)} {t : Int} {e : Ending} (h : e = .returned (.bool true)) (k : AnyK uw cw sr t) : AnyPost uw cw sr t e := .inl ⟨h, k⟩
theorem AnyPost.no {uw cw sr : List (Int × Int)} {t : Int} {e : Ending} (h : e = .returned (.bool false)) (k : ¬ AnyK uw cw sr t) : AnyPost uw cw sr t e := .inr ⟨h, k⟩

set_option maxRecDepth 100000 in
set_option maxHeartbeats 1000000 in
theorem any_any (v0 v1 v2 : Value) (uw cw sr : List (Int × Int)) (t : Int) (w : World) (h0 : Rd2 w v0 uw) (h1 : Rd2 w v1 cw) (h2 : Rd2 w v2 sr) (l0 : uw.length ≤ 1000000) (l1 : cw.length ≤ 1000000) (l2 : sr.length ≤ 1000000)
    (ht : 0 ≤ t ∧ t ≤ 4611686018427387904) (hs : ∀ i, i < sr.length → 0 ≤ (sr.getD i (0, 0)).1 ∧ (sr.getD i (0, 0)).1 ≤ t) :
    Calls Try.prog 14 #[v0, v1, v2, .int .i64 t] w fun e w' => AnyPost uw cw sr t e ∧ w' = w := by
  obtain ⟨a0, c0, rfl, k0⟩ := h0
  obtain ⟨a1, c1, rfl, k1⟩ := h1
  obtain ⟨a2, c2, rfl, k2⟩ := h2
  by_cases hz : 0 < sr.length
  · obtain ⟨b, off, rfl, hb, hc⟩ := k2 hz
    have hcell := (hc (sr.length - 1) (by omega)).1
    have hsl := hs (sr.length - 1) (by omega)
    have HAny := hide (show AnyK uw cw sr t ↔ ((∃ i, i < uw.length ∧ t - (sr.getD (sr.length - 1) (0, 0)).1 < (uw.getD i (0, 0)).2) ∨ ∃ i, i < cw.length ∧ 1 ≤ (cw.getD i (0, 0)).1 ∧ t - (sr.getD (sr.length - 1) (0, 0)).1 < (cw.getD i (0, 0)).2) from ⟨fun h => h.2, fun h => ⟨hz, h⟩⟩)
    generalize (sr.getD (sr.length - 1) (0, 0)).1 = la at hcell hsl HAny
    have hz' : ((sr.length : Int) == 0) = false := by rw [beq_eq_false_iff_ne]; omega
    have hi1 : (0 : Int) ≤ (sr.length : Int) - 1 := by omega
    have hi2 : (sr.length : Int) - 1 < (sr.length : Int) := by omega
    have hi3 : ((sr.length : Int) - 1).toNat = sr.length - 1 := by omega
    have hwr : IntKind.i64.wrap (t - la) = t - la := by rw [IntKind.wrap_i64]; omega
    have HSl := hide hsl
    clear hc hs k2 hsl hz
    go_enter Try.func14, Try.ntmps14
    go_wp2_with fail
    go_loopg [10] uw.length (fun g a wr => w = wr ∧ ∃ k : Nat, g = uw.length - k ∧ k ≤ uw.length ∧ a = .int .i64 k ∧ ∀ i, i < k → ¬ t - la < (uw.getD i (0, 0)).2)
    case atStart => exact ⟨rfl, 0, by omega, by omega, rfl, fun i hi => by omega⟩
    case round =>
      obtain ⟨rfl, k, hgk, hk, rfl, hU⟩ := hrel
      have HG := hide hgk
      have HU := hide hU
      clear hgk hU
      by_cases hlt : k < uw.length
      · obtain ⟨b, off, rfl, hb, hc⟩ := k0 (by omega)
        have hcell := (hc k hlt).2
        have HS := hide (fun (x : Int × Int) (e : uw.getD k (0, 0) = x) (hx : ¬ t - la < x.2) i (hi : i < k + 1) => (show ¬ t - la < (uw.getD i (0, 0)).2 from by
          by_cases c : i = k
          · subst c; rw [e]; exact hx
          · exact HU.out i (by omega)))
        have HY := hide (fun (x : Int × Int) (e : uw.getD k (0, 0) = x) (hx : t - la < x.2) => (show AnyK uw cw sr t from HAny.out.2 (.inl ⟨k, hlt, by rw [e]; exact hx⟩)))
        generalize hx : uw.getD k (0, 0) = x at hcell
        have HS2 := hide (HS.out x hx)
        have HY2 := hide (HY.out x hx)
        obtain ⟨x1, x2⟩ := x
        simp only at hcell HS2 HY2
        clear hx hc HS HY
        by_cases hy : t - la < x2
        · have HYy := hide (HY2.out hy)
          go_wp2_with fail
          go_ret
          exact ⟨.yes rfl HYy.out, rfl⟩
        · have HSy := hide (HS2.out hy)
          go_wp2_with fail
          go_roundg (uw.length - (k + 1))
          case measure => rw [HG.out]; omega
          case rel => exact ⟨rfl, k + 1, rfl, by omega, by go_num, HSy.out⟩
      · obtain rfl : k = uw.length := by omega
        go_wp2_with fail
        go_loopg [11] cw.length (fun g a wr => w = wr ∧ ∃ k : Nat, g = cw.length - k ∧ k ≤ cw.length ∧ a = .int .i64 k ∧ ∀ i, i < k → ¬ (1 ≤ (cw.getD i (0, 0)).1 ∧ t - la < (cw.getD i (0, 0)).2))
        case atStart => exact ⟨rfl, 0, by omega, by omega, rfl, fun i hi => by omega⟩
        case round =>
          obtain ⟨rfl, k, hgk, hk, rfl, hU⟩ := hrel
          have HG2 := hide hgk
          have HU2 := hide hU
          clear hgk hU
          by_cases hlt : k < cw.length
          · obtain ⟨b, off, rfl, hb, hc⟩ := k1 (by omega)
            have hcell1 := (hc k hlt).1
            have hcell := (hc k hlt).2
            have HS := hide (fun (x : Int × Int) (e : cw.getD k (0, 0) = x) (hx : ¬ (1 ≤ x.1 ∧ t - la < x.2)) i (hi : i < k + 1) => (show ¬ (1 ≤ (cw.getD i (0, 0)).1 ∧ t - la < (cw.getD i (0, 0)).2) from by
              by_cases c : i = k
              · subst c; rw [e]; exact hx
              · exact HU2.out i (by omega)))
            have HY := hide (fun (x : Int × Int) (e : cw.getD k (0, 0) = x) (hx : 1 ≤ x.1 ∧ t - la < x.2) => (show AnyK uw cw sr t from HAny.out.2 (.inr ⟨k, hlt, by rw [e]; exact hx⟩)))
            generalize hx : cw.getD k (0, 0) = x at hcell hcell1
            have HS2 := hide (HS.out x hx)
            have HY2 := hide (HY.out x hx)
            obtain ⟨x1, x2⟩ := x
            simp only at hcell hcell1 HS2 HY2
            clear hx hc HS HY
            by_cases hy1 : 1 ≤ x1
            · by_cases hy : t - la < x2
              · have HYy := hide (HY2.out ⟨hy1, hy⟩)
                go_wp2_with fail
                go_ret
                exact ⟨.yes rfl HYy.out, rfl⟩
              · have HSy := hide (HS2.out (fun h => hy h.2))
                go_wp2_with fail
                go_roundg (cw.length - (k + 1))
                case measure => rw [HG2.out]; omega
                case rel => exact ⟨rfl, k + 1, rfl, by omega, by go_num, HSy.out⟩
            · have HSy := hide (HS2.out (fun h => hy1 h.1))
              go_wp2_with fail
              go_roundg (cw.length - (k + 1))
              case measure => rw [HG2.out]; omega
              case rel => exact ⟨rfl, k + 1, rfl, by omega, by go_num, HSy.out⟩
          · obtain rfl : k = cw.length := by omega
            have HN := hide (show ¬ AnyK uw cw sr t from fun h => by
              rcases HAny.out.1 h with ⟨i, hi, x⟩ | ⟨i, hi, x⟩
              · have := HU.out i hi; omega
              · first | exact HU2.out i hi x | (have := HU2.out i hi x.1; omega))
            go_wp2_with fail
            go_ret
            exact ⟨.no rfl HN.out, rfl⟩
  · have HN := hide (show ¬ AnyK uw cw sr t from fun h => hz h.1)
    have hz' : ((sr.length : Int) == 0) = true := by rw [beq_iff_eq]; omega
    clear hz
    go_enter Try.func14, Try.ntmps14
    go_wp2_with fail
    go_ret
    exact ⟨.no rfl HN.out, rfl⟩
end Go.Proofs.Qxb6628726a
