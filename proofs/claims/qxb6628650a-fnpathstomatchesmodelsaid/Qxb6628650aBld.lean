/-
  ZZMakeLink, ZZNewTopology, the readers (seat b6628650a); the links in memory.
-/
import Derived.Test.Qxb6628650aPaA
import Derived.Test.Qxb6628650aPre
namespace Go.Proofs.Qxb6628650a
open Go.RowKit
set_option linter.unusedVariables false
attribute [local go_sem ↓] Go.wp_at_zero Go.wp_at_succ

theorem mk_any (t a : Int) (k : Nat) (w : World) : Calls Try.prog 17 #[.int .i64 t, .float .f64 k, .int .i64 a] w fun e w' => e = .returned (.agg #[.int .i64 t, .float .f64 k, .int .i64 a]) ∧ Below w.heap.size w w' := by
  go_enter Try.func17, Try.ntmps17
  go_wp2_with fail
  exact bodyPost_ret (v := .agg #[.int .i64 t, .float .f64 k, .int .i64 a]) (by simp [results, Try.results17, go_sem]) rfl ⟨rfl, (Below.refl _ _).alloc (Nat.le_refl _) _⟩

theorem new_any (a0 a2 a3 : Option Addr) (n0 c0 n2 c2 n3 c3 : Nat) (mp : Option Nat) (w : World) :
    Calls Try.prog 18 #[.slice a0 n0 c0, .map mp, .slice a2 n2 c2, .slice a3 n3 c3] w fun e w' => e = .returned (.pointer (some ⟨w.heap.size, 0, none⟩)) ∧ w' = w.alloc (.cells #[.slice a0 n0 c0, .map mp, .slice a2 n2 c2, .slice a3 n3 c3] 53) := by
  go_enter Try.func18, Try.ntmps18
  go_wp2_with fail
  go_ret
  exact ⟨rfl, rfl⟩

theorem pend_any (P : Nat) (v : Int) (w : World) (h : w.cell? ⟨P, 0, none⟩ = some (.int .i64 v)) : Calls Try.prog 11 #[.pointer (some ⟨P, 0, none⟩)] w fun e w' => e = .returned (.int .i64 v) ∧ w' = w := by
  go_enter Try.func11, Try.ntmps11
  go_wp2_with fail
  go_ret
  exact ⟨rfl, rfl⟩
theorem pkm_any (P : Nat) (a : Option Addr) (n c : Nat) (w : World) (h : w.cell? ⟨P, 1, none⟩ = some (.slice a n c)) : Calls Try.prog 12 #[.pointer (some ⟨P, 0, none⟩)] w fun e w' => e = .returned (.slice a n c) ∧ w' = w := by
  go_enter Try.func12, Try.ntmps12
  go_wp2_with fail
  go_ret
  exact ⟨rfl, rfl⟩
theorem pnext_any (P : Nat) (a : Option Addr) (n c : Nat) (w : World) (h : w.cell? ⟨P, 2, none⟩ = some (.slice a n c)) : Calls Try.prog 13 #[.pointer (some ⟨P, 0, none⟩)] w fun e w' => e = .returned (.slice a n c) ∧ w' = w := by
  go_enter Try.func13, Try.ntmps13
  go_wp2_with fail
  go_ret
  exact ⟨rfl, rfl⟩
theorem parcs_any (P : Nat) (a : Option Addr) (n c : Nat) (w : World) (h : w.cell? ⟨P, 3, none⟩ = some (.slice a n c)) : Calls Try.prog 14 #[.pointer (some ⟨P, 0, none⟩)] w fun e w' => e = .returned (.slice a n c) ∧ w' = w := by
  go_enter Try.func14, Try.ntmps14
  go_wp2_with fail
  go_ret
  exact ⟨rfl, rfl⟩

/-! The links in memory: an outer row of slices, each a row of its own. -/
def flat3 : List Lk → List Value
  | [] => []
  | p :: l => .int .i64 (p.1 : Int) :: .float .f64 p.2.1 :: .int .i64 (p.2.2 : Int) :: flat3 l
theorem flat3_len : ∀ l, (flat3 l).length = l.length * 3
  | [] => rfl
  | p :: l => by simp [flat3, flat3_len l]; omega
theorem flat3_app : ∀ l m, flat3 (l ++ m) = flat3 l ++ flat3 m
  | [], m => rfl
  | p :: l, m => by simp [flat3, flat3_app l m]
theorem flat3_at : ∀ (l : List Lk) (i : Nat), i < l.length → (flat3 l)[i * 3]? = some (.int .i64 ((l.getD i (0, 0, 0)).1 : Int)) ∧ (flat3 l)[i * 3 + 1]? = some (.float .f64 (l.getD i (0, 0, 0)).2.1) ∧ (flat3 l)[i * 3 + 2]? = some (.int .i64 ((l.getD i (0, 0, 0)).2.2 : Int))
  | p :: l, 0, _ => by simp [flat3]
  | p :: l, i + 1, h => by
    have := flat3_at l i (by simpa using h)
    rw [show (i + 1) * 3 = i * 3 + 3 by omega]
    simpa [flat3] using this

structure Lks (w : World) (B gL n : Nat) (vv : Nat → Value) (adj : Nat → List Lk) : Prop where
  o : w.ownsRow B 44 1 (QV gL n n) n ((List.range n).map vv)
  r : ∀ v, v < n → w.ownsRow B 46 3 (vv v) (adj v).length (flat3 (adj v))
  ne : ∀ v, v < n → (vv v).ownBlock ≠ some gL
  ap : ∀ u v, u < n → v < n → u ≠ v → ∀ k, (vv u).ownBlock = some k → (vv v).ownBlock ≠ some k
def updV {α : Type} (f : Nat → α) (v : Nat) (x : α) (i : Nat) : α := if i = v then x else f i
theorem updV_at {α : Type} (f : Nat → α) (v : Nat) (x : α) : updV f v x v = x := by simp [updV]
theorem updV_ne {α : Type} {f : Nat → α} {v i : Nat} {x : α} (h : i ≠ v) : updV f v x i = f i := by simp [updV, h]

theorem Lks.at_ {w : World} {B gL n : Nat} {vv : Nat → Value} {adj : Nat → List Lk} (h : Lks w B gL n vv adj) (v : Nat) (hv : v < n) : w.cell? ⟨gL, v, none⟩ = some (vv v) := by
  rw [World.ownsRow.cellAt h.o v (by omega)]; simp [hv]
theorem Lks.lt {w : World} {B gL n : Nat} {vv : Nat → Value} {adj : Nat → List Lk} (h : Lks w B gL n vv adj) : B ≤ gL ∧ gL < w.heap.size := World.ownsRow.lt h.o gL rfl

/-- What the search is told of the links. -/
theorem Lks.tp {w : World} {B gL n T : Nat} {vv : Nat → Value} {adj : Nat → List Lk} (h : Lks w B gL n vv adj) (hT : w.cell? ⟨T, 2, none⟩ = some (QV gL n n)) : Tp w T n adj gL n := by
  refine ⟨hT, h.lt.2, fun v hv => ?_⟩
  have hr := h.r v hv
  have hc := h.at_ v hv
  rcases hr.2 with ⟨e, h0⟩ | ⟨g, cap, cur, e, hb, hg, _⟩
  · rw [e] at hc
    exact ⟨none, 0, by rw [hc, h0], fun j hj => by omega⟩
  · rw [e] at hc
    refine ⟨some ⟨g, 0, none⟩, cap, hc, fun j hj => ⟨g, 0, rfl, (Array.getElem?_eq_some_iff.1 hg).1, ?_⟩⟩
    have f := flat3_at (adj v) j hj
    rw [e] at hr
    simp only [Nat.zero_add]
    exact ⟨(World.ownsRow.cellAt hr _ (by omega)).trans f.1, (World.ownsRow.cellAt hr _ (by omega)).trans f.2.1, (World.ownsRow.cellAt hr _ (by omega)).trans f.2.2⟩
end Go.Proofs.Qxb6628650a
