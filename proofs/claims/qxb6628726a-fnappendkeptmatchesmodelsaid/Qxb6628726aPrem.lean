/-
  WALKS of seat b6628726a: the premise, the closed form, the bounds: functions that only read their arguments.
-/
import Derived.Test.Qxb6628726aBytesB
namespace Go.Proofs.Qxb6628726a
open Go.RowKit
set_option linter.unusedVariables false

/-- The slice v, of structs of two int64 fields, reads as l. -/
def Rd2 (w : World) (v : Value) (l : List (Int × Int)) : Prop :=
  ∃ a cap, v = .slice a l.length cap ∧ (0 < l.length → ∃ b off, a = some ⟨b, off, none⟩ ∧ b < w.heap.size ∧
    ∀ i, i < l.length → w.cell? ⟨b, off + i * 2, none⟩ = some (.int .i64 (l.getD i (0, 0)).1) ∧ w.cell? ⟨b, off + i * 2 + 1, none⟩ = some (.int .i64 (l.getD i (0, 0)).2))
theorem Rd2.later {w w' : World} {v : Value} {l : List (Int × Int)} (h : Rd2 w v l) (hb : Below w.heap.size w w') : Rd2 w' v l := by
  obtain ⟨a, cap, e, k⟩ := h
  refine ⟨a, cap, e, fun hn => ?_⟩
  obtain ⟨b, off, e2, hlt, hc⟩ := k hn
  exact ⟨b, off, e2, Nat.lt_of_lt_of_le hlt hb.size, fun i hi => ⟨(hb.cell (p := ⟨b, off + i * 2, none⟩) hlt).trans (hc i hi).1, (hb.cell (p := ⟨b, off + i * 2 + 1, none⟩) hlt).trans (hc i hi).2⟩⟩

abbrev M62 : Int := 4611686018427387904
structure Prem (uw cw sc : List (Int × Int)) (t : Int) : Prop where
  t0 : 0 ≤ t
  t1 : t ≤ 4611686018427387904
  u : ∀ i, i < uw.length → 0 ≤ (uw.getD i (0, 0)).2 ∧ (uw.getD i (0, 0)).2 ≤ 4611686018427387904
  c : ∀ i, i < cw.length → 0 ≤ (cw.getD i (0, 0)).2 ∧ (cw.getD i (0, 0)).2 ≤ 4611686018427387904
  s0 : ∀ i, i < sc.length → 0 ≤ (sc.getD i (0, 0)).1 ∧ (sc.getD i (0, 0)).1 ≤ t
  s1 : ∀ i, i + 1 < sc.length → (sc.getD i (0, 0)).1 ≤ (sc.getD (i + 1) (0, 0)).1

def PremPost (uw cw sr : List (Int × Int)) (t : Int) (e : Ending) : Prop := (e = .returned (.bool true) ∧ Prem uw cw sr t) ∨ e = .returned (.bool false)
theorem PremPost.no {uw cw sr : List (Int × Int)} {t : Int} {e : Ending} (h : e = .returned (.bool false)) : PremPost uw cw sr t e := .inr h

set_option maxRecDepth 100000 in
set_option maxHeartbeats 1000000 in
theorem premise_any (v0 v1 v2 : Value) (uw cw sr : List (Int × Int)) (t : Int) (w : World) (h0 : Rd2 w v0 uw) (h1 : Rd2 w v1 cw) (h2 : Rd2 w v2 sr) (l0 : uw.length ≤ 1000000) (l1 : cw.length ≤ 1000000) (l2 : sr.length ≤ 1000000) :
    Calls Try.prog 6 #[v0, v1, v2, .int .i64 t] w fun e w' => PremPost uw cw sr t e ∧ w' = w := by
  obtain ⟨a0, c0, rfl, k0⟩ := h0
  obtain ⟨a1, c1, rfl, k1⟩ := h1
  obtain ⟨a2, c2, rfl, k2⟩ := h2
  by_cases ht0 : 0 ≤ t
  · by_cases ht1 : t ≤ 4611686018427387904
    · go_enter Try.func6, Try.ntmps6
      go_wp2_with fail
      go_loopg [9] uw.length (fun g a wr => w = wr ∧ ∃ k : Nat, g = uw.length - k ∧ k ≤ uw.length ∧ a = .int .i64 k ∧ ∀ i, i < k → 0 ≤ (uw.getD i (0, 0)).2 ∧ (uw.getD i (0, 0)).2 ≤ 4611686018427387904)
      case atStart => exact ⟨rfl, 0, by omega, by omega, rfl, fun i hi => by omega⟩
      case round =>
        obtain ⟨rfl, k, hgk, hk, rfl, hU⟩ := hrel
        have HG := hide hgk
        have HU := hide hU
        clear hgk hU
        by_cases hlt : k < uw.length
        · obtain ⟨b, off, rfl, hb, hc⟩ := k0 (by omega)
          have hcell := (hc k hlt).2
          have HS := hide (fun (x : Int × Int) (e : uw.getD k (0, 0) = x) (hx : 0 ≤ x.2 ∧ x.2 ≤ 4611686018427387904) i (hi : i < k + 1) => (show 0 ≤ (uw.getD i (0, 0)).2 ∧ (uw.getD i (0, 0)).2 ≤ 4611686018427387904 from by
            by_cases c : i = k
            · subst c; rw [e]; exact hx
            · exact HU.out i (by omega)))
          generalize hx : uw.getD k (0, 0) = x at hcell
          have HS2 := hide (HS.out x hx)
          obtain ⟨x1, x2⟩ := x
          simp only at hcell
          clear hx hc HS
          by_cases hx0 : 0 ≤ x2
          · by_cases hx1 : x2 ≤ 4611686018427387904
            · go_wp2_with fail
              go_roundg (uw.length - (k + 1))
              case measure => rw [HG.out]; omega
              case rel => exact ⟨rfl, k + 1, rfl, by omega, by go_num, HS2.out ⟨hx0, hx1⟩⟩
            · go_wp2_with fail
              go_ret
              exact ⟨.no rfl, rfl⟩
          · go_wp2_with fail
            go_ret
            exact ⟨.no rfl, rfl⟩
        · obtain rfl : k = uw.length := by omega
          go_wp2_with fail
          go_loopg [10] cw.length (fun g a wr => w = wr ∧ ∃ k : Nat, g = cw.length - k ∧ k ≤ cw.length ∧ a = .int .i64 k ∧ ∀ i, i < k → 0 ≤ (cw.getD i (0, 0)).2 ∧ (cw.getD i (0, 0)).2 ≤ 4611686018427387904)
          case atStart => exact ⟨rfl, 0, by omega, by omega, rfl, fun i hi => by omega⟩
          case round =>
            obtain ⟨rfl, k, hgk, hk, rfl, hC⟩ := hrel
            have HG2 := hide hgk
            have HC := hide hC
            clear hgk hC
            by_cases hlt2 : k < cw.length
            · obtain ⟨b, off, rfl, hb, hc⟩ := k1 (by omega)
              have hcell := (hc k hlt2).2
              have HS := hide (fun (x : Int × Int) (e : cw.getD k (0, 0) = x) (hx : 0 ≤ x.2 ∧ x.2 ≤ 4611686018427387904) i (hi : i < k + 1) => (show 0 ≤ (cw.getD i (0, 0)).2 ∧ (cw.getD i (0, 0)).2 ≤ 4611686018427387904 from by
                by_cases c : i = k
                · subst c; rw [e]; exact hx
                · exact HC.out i (by omega)))
              generalize hx : cw.getD k (0, 0) = x at hcell
              have HS2 := hide (HS.out x hx)
              obtain ⟨x1, x2⟩ := x
              simp only at hcell
              clear hx hc HS
              by_cases hx0 : 0 ≤ x2
              · by_cases hx1 : x2 ≤ 4611686018427387904
                · go_wp2_with fail
                  go_roundg (cw.length - (k + 1))
                  case measure => rw [HG2.out]; omega
                  case rel => exact ⟨rfl, k + 1, rfl, by omega, by go_num, HS2.out ⟨hx0, hx1⟩⟩
                · go_wp2_with fail
                  go_ret
                  exact ⟨.no rfl, rfl⟩
              · go_wp2_with fail
                go_ret
                exact ⟨.no rfl, rfl⟩
            · obtain rfl : k = cw.length := by omega
              go_wp2_with fail
              go_loopg [11, 12, 13] sr.length (fun g p a _ wr => w = wr ∧ ∃ (k : Nat) (q : Int), g = sr.length - k ∧ k ≤ sr.length ∧ a = .int .i64 k ∧ p = .int .i64 q ∧ 0 ≤ q ∧ (∀ i, i < k → 0 ≤ (sr.getD i (0, 0)).1 ∧ (sr.getD i (0, 0)).1 ≤ t ∧ (sr.getD i (0, 0)).1 ≤ q) ∧ (∀ i, i + 1 < k → (sr.getD i (0, 0)).1 ≤ (sr.getD (i + 1) (0, 0)).1))
              case atStart => exact ⟨rfl, 0, 0, by omega, by omega, rfl, rfl, by omega, fun i hi => by omega, fun i hi => by omega⟩
              case round =>
                obtain ⟨rfl, k, q, hgk, hk3, rfl, rfl, hq, hS0, hS1⟩ := hrel
                have HG3 := hide hgk
                have H0 := hide hS0
                have H1 := hide hS1
                clear hgk hS0 hS1
                by_cases hlt3 : k < sr.length
                · obtain ⟨b, off, rfl, hb, hc⟩ := k2 (by omega)
                  have hcell := (hc k hlt3).1
                  have HS := hide (fun (x : Int × Int) (e : sr.getD k (0, 0) = x) (hx0 : q ≤ x.1) (hx1 : x.1 ≤ t) => (show (∀ i, i < k + 1 → 0 ≤ (sr.getD i (0, 0)).1 ∧ (sr.getD i (0, 0)).1 ≤ t ∧ (sr.getD i (0, 0)).1 ≤ x.1) ∧ (∀ i, i + 1 < k + 1 → (sr.getD i (0, 0)).1 ≤ (sr.getD (i + 1) (0, 0)).1) from by
                    refine ⟨fun i hi => ?_, fun i hi => ?_⟩
                    · by_cases c : i = k
                      · subst c; rw [e]; omega
                      · have := H0.out i (by omega); omega
                    · by_cases c : i + 1 = k
                      · have := H0.out i (by omega); rw [c, e]; omega
                      · exact H1.out i (by omega)))
                  generalize hx : sr.getD k (0, 0) = x at hcell
                  have HS2 := hide (HS.out x hx)
                  obtain ⟨x1, x2⟩ := x
                  simp only at hcell
                  clear hx hc HS
                  by_cases hx0 : q ≤ x1
                  · by_cases hx1 : x1 ≤ t
                    · go_wp2_with fail
                      go_roundg (sr.length - (k + 1))
                      case measure => rw [HG3.out]; omega
                      case rel => exact ⟨rfl, k + 1, x1, rfl, by omega, by go_num, rfl, by omega, (HS2.out hx0 hx1).1, (HS2.out hx0 hx1).2⟩
                    · go_wp2_with fail
                      go_ret
                      exact ⟨.no rfl, rfl⟩
                  · go_wp2_with fail
                    go_ret
                    exact ⟨.no rfl, rfl⟩
                · obtain rfl : k = sr.length := by omega
                  go_wp2_with fail
                  go_ret
                  exact ⟨.inl ⟨rfl, ht0, ht1, HU.out, HC.out, fun i hi => ⟨(H0.out i hi).1, (H0.out i hi).2.1⟩, H1.out⟩, rfl⟩
    · go_enter Try.func6, Try.ntmps6
      go_wp2_with fail
      go_ret
      exact ⟨.no rfl, rfl⟩
  · go_enter Try.func6, Try.ntmps6
    go_wp2_with fail
    go_ret
    exact ⟨.no rfl, rfl⟩
end Go.Proofs.Qxb6628726a
