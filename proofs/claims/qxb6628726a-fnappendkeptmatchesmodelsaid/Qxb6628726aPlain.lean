/-
  THE PLAIN LAWS (seat b6628726a): the log built by a script is the merged script, moved.
-/
import Derived.Test.Qxb6628726aBuildB
import Derived.Test.Qxb6628726aKeep
namespace Go.Proofs.Qxb6628726a
open Go.RowKit
set_option linter.unusedVariables false

/-- The checks of the script, those at one instant merged. -/
def mg (f : Int × Int → Int) (sr : List (Int × Int)) : Nat → List (Int × Int)
  | 0 => []
  | k + 1 => tkAdd (mg f sr k) (sr.getD k (0, 0)).1 (f (sr.getD k (0, 0)))
/-- The wrapped sum of what was counted. -/
def sm (f : Int × Int → Int) (sr : List (Int × Int)) : Nat → Int
  | 0 => 0
  | k + 1 => wrap64 (sm f sr k + f (sr.getD k (0, 0)))
def mv (c : Int) (l : List (Int × Int)) : List (Int × Int) := l.map fun p => (p.1 + c, p.2)
theorem mv_len (c : Int) (l : List (Int × Int)) : (mv c l).length = l.length := by simp [mv]
theorem mv_at (c : Int) (l : List (Int × Int)) (j : Nat) (h : j < l.length) : (mv c l).getD j (0, 0) = ((l.getD j (0, 0)).1 + c, (l.getD j (0, 0)).2) := by simp [mv, h]
theorem tkAdd_mv (c : Int) (l : List (Int × Int)) (a u : Int) : tkAdd (mv c l) (a + c) u = mv c (tkAdd l a u) := by
  by_cases hn : 0 < l.length
  · have hl : lastAt (mv c l) = ((lastAt l).1 + c, (lastAt l).2) := by unfold lastAt; rw [mv_len, mv_at c l _ (by omega)]
    have hs : sameAt (mv c l) (a + c) = sameAt l a := by
      unfold sameAt; rw [hl, mv_len]
      congr 1
      rw [Bool.eq_iff_iff, decide_eq_true_iff, decide_eq_true_iff]
      simp only
      omega
    unfold tkAdd
    rw [hs, hl, mv_len]
    split
    · simp [mv, List.map_set]
    · simp [mv]
  · have : l = [] := List.eq_nil_of_length_eq_zero (by omega)
    subst this
    simp [mv, tkAdd, sameAt]

theorem tkAdd_pos (l : List (Int × Int)) (a u : Int) : 0 < (tkAdd l a u).length := by
  unfold tkAdd; split
  · rename_i h
    simp [sameAt] at h
    simpa using h.1
  · simp
theorem tkAdd_zero (l : List (Int × Int)) (a u : Int) (h : 0 < l.length) : ((tkAdd l a u).getD 0 (0, 0)).1 = (l.getD 0 (0, 0)).1 := by
  unfold tkAdd; split
  · by_cases c : l.length - 1 = 0
    · rw [c]
      have : lastAt l = l.getD 0 (0, 0) := by unfold lastAt; rw [c]
      rw [this]
      simp [h]
    · simp [c]
  · simp [h]
theorem mg_pos (f : Int × Int → Int) (sr : List (Int × Int)) (k : Nat) : 0 < (mg f sr (k + 1)).length := tkAdd_pos _ _ _

/-- The log of a script. -/
theorem runS_is (wn : Nat) (hw : 0 < wn) (f : Int × Int → Int) (d : Int) (sr : List (Int × Int)) (hd : 0 ≤ d) (h0 : ∀ i, i < sr.length → 0 ≤ (sr.getD i (0, 0)).1) (hmo : ∀ i j, i ≤ j → j < sr.length → (sr.getD i (0, 0)).1 ≤ (sr.getD j (0, 0)).1) : ∀ k, k ≤ sr.length →
    (runS wn f d sr k).tk = mv (d - (runS wn f d sr k).base) (mg f sr k) ∧ (runS wn f d sr k).cn = List.replicate wn (0, sm f sr k) ∧ (0 < k → ((runS wn f d sr k).base : Int) = ((sr.getD 0 (0, 0)).1 + d)) ∧ (0 < k → ((mg f sr k).getD 0 (0, 0)).1 = (sr.getD 0 (0, 0)).1)
  | 0, _ => ⟨rfl, rfl, fun h => by omega, fun h => by omega⟩
  | k + 1, hk => by
    obtain ⟨a, b, c, e⟩ := runS_is wn hw f d sr hd h0 hmo k (by omega)
    have hk0 := h0 k (by omega)
    have h00 := h0 0 (by omega)
    have hmm := hmo 0 k (by omega) (by omega)
    have hbase : (baseOf (runS wn f d sr k).tk (runS wn f d sr k).base ((sr.getD k (0, 0)).1 + d).toNat : Int) = (sr.getD 0 (0, 0)).1 + d := by
      unfold baseOf
      rw [a, mv_len]
      by_cases hz : k = 0
      · subst hz
        rw [if_pos (by simp [mg])]
        omega
      · obtain ⟨j, rfl⟩ : ∃ j, k = j + 1 := ⟨k - 1, by omega⟩
        have := mg_pos f sr j
        rw [if_neg (by omega)]
        exact c (by omega)
    have hstep : runS wn f d sr (k + 1) = ⟨baseOf (runS wn f d sr k).tk (runS wn f d sr k).base ((sr.getD k (0, 0)).1 + d).toNat, tkAdd (runS wn f d sr k).tk ((((sr.getD k (0, 0)).1 + d).toNat - baseOf (runS wn f d sr k).tk (runS wn f d sr k).base ((sr.getD k (0, 0)).1 + d).toNat : Nat) : Int) (f (sr.getD k (0, 0))), cnAdd (runS wn f d sr k).cn (f (sr.getD k (0, 0)))⟩ := by
      rw [runS, PS.add, if_neg (by omega)]
    rw [hstep]
    simp only
    generalize hB : baseOf (runS wn f d sr k).tk (runS wn f d sr k).base ((sr.getD k (0, 0)).1 + d).toNat = Bs at *
    have hat : ((((sr.getD k (0, 0)).1 + d).toNat - Bs : Nat) : Int) = (sr.getD k (0, 0)).1 + (d - Bs) := by omega
    have htk : (runS wn f d sr k).tk = mv (d - Bs) (mg f sr k) := by
      by_cases hz : k = 0
      · subst hz; simp [mg, mv, runS]
      · rw [a]; have := c (by omega); congr 1; omega
    refine ⟨?_, ?_, fun _ => hbase, fun _ => ?_⟩
    · rw [hat, htk, tkAdd_mv]; rfl
    · rw [b]; simp [cnAdd, sm]
    · by_cases hz : k = 0
      · subst hz; simp [mg, tkAdd, sameAt]
      · obtain ⟨j, rfl⟩ : ∃ j, k = j + 1 := ⟨k - 1, by omega⟩
        rw [mg, tkAdd_zero _ _ _ (mg_pos f sr j)]
        exact e (by omega)
end Go.Proofs.Qxb6628726a
