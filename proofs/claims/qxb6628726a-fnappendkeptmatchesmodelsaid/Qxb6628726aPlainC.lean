/-
  THE PLAIN LAWS, third part (seat b6628726a): the merged script.
-/
import Derived.Test.Qxb6628726aPlainB
namespace Go.Proofs.Qxb6628726a
open Go.RowKit
set_option linter.unusedVariables false

theorem tkAdd_same {l : List (Int × Int)} {a u : Int} (h : sameAt l a = true) : (tkAdd l a u).length = l.length ∧ 0 < l.length ∧ (lastAt l).1 = a ∧ ∀ j, (tkAdd l a u).getD j (0, 0) = if j = l.length - 1 then (a, wrap64 ((lastAt l).2 + u)) else l.getD j (0, 0) := by
  have h' := h
  simp only [sameAt, Bool.and_eq_true, decide_eq_true_iff] at h'
  refine ⟨by unfold tkAdd; rw [if_pos h]; simp, h'.1, h'.2, fun j => ?_⟩
  unfold tkAdd
  rw [if_pos h, h'.2]
  by_cases c : j = l.length - 1
  · rw [if_pos c, c]
    have : l.length - 1 < l.length := by omega
    simp [this]
  · rw [if_neg c]
    simp [Ne.symm c]
theorem tkAdd_new {l : List (Int × Int)} {a u : Int} (h : sameAt l a = false) : (tkAdd l a u).length = l.length + 1 ∧ (0 < l.length → (lastAt l).1 ≠ a) ∧ ∀ j, (tkAdd l a u).getD j (0, 0) = if j = l.length then (a, u) else l.getD j (0, 0) := by
  have h' := h
  simp only [sameAt, Bool.and_eq_false_iff, decide_eq_false_iff_not] at h'
  refine ⟨by unfold tkAdd; rw [h]; simp, fun hl => by rcases h' with x | x; omega; exact x, fun j => ?_⟩
  unfold tkAdd
  rw [h, if_neg (by simp)]
  by_cases c : j = l.length
  · rw [if_pos c, c]; simp
  · rw [if_neg c]
    by_cases d : j < l.length
    · simp [List.getElem?_append, d]
    · have e1 : (l ++ [(a, u)]).length ≤ j := by simp; omega
      simp [List.getElem?_eq_none e1, List.getElem?_eq_none (show l.length ≤ j by omega)]

structure Keyed (M sr : List (Int × Int)) (k : Nat) : Prop where
  mem : ∀ j, j < M.length → ∃ i, i < k ∧ (M.getD j (0, 0)).1 = (sr.getD i (0, 0)).1
  inc : ∀ j, j + 1 < M.length → (M.getD j (0, 0)).1 < (M.getD (j + 1) (0, 0)).1
  last : 0 < k → 0 < M.length ∧ (M.getD (M.length - 1) (0, 0)).1 = (sr.getD (k - 1) (0, 0)).1
  le : M.length ≤ k

theorem mg_keyed (f : Int × Int → Int) (sr : List (Int × Int)) (hmo : ∀ i j, i ≤ j → j < sr.length → (sr.getD i (0, 0)).1 ≤ (sr.getD j (0, 0)).1) : ∀ k, k ≤ sr.length → Keyed (mg f sr k) sr k
  | 0, _ => ⟨fun j h => by simp [mg] at h, fun j h => by simp [mg] at h, fun h => by omega, by simp [mg]⟩
  | k + 1, hk => by
    have ih := mg_keyed f sr hmo k (by omega)
    rw [mg]
    generalize mg f sr k = M at ih
    cases hs : sameAt M (sr.getD k (0, 0)).1
    · obtain ⟨a, b, c⟩ := tkAdd_new (u := f (sr.getD k (0, 0))) hs
      have hle := ih.le
      refine ⟨fun j hj => ?_, fun j hj => ?_, fun _ => ⟨by omega, ?_⟩, by omega⟩
      · rw [c]; split
        · exact ⟨k, by omega, rfl⟩
        · obtain ⟨i, hi, e⟩ := ih.mem j (by omega)
          exact ⟨i, by omega, e⟩
      · rw [c, c]
        rw [if_neg (by omega)]
        split
        · rename_i e
          have hp : 0 < M.length := by omega
          have hk0 : 0 < k := by omega
          have l1 := (ih.last hk0).2
          have ne := b hp
          unfold lastAt at ne
          rw [show j = M.length - 1 by omega, l1]
          rw [l1] at ne
          have := hmo (k - 1) k (by omega) (by omega)
          simp only
          omega
        · exact ih.inc j (by omega)
      · rw [c, if_pos (by omega), Nat.add_sub_cancel]
    · obtain ⟨a, b, e, c⟩ := tkAdd_same (u := f (sr.getD k (0, 0))) hs
      have hle := ih.le
      have key : ∀ j, j < M.length → ((tkAdd M (sr.getD k (0, 0)).1 (f (sr.getD k (0, 0)))).getD j (0, 0)).1 = (M.getD j (0, 0)).1 := by
        intro j hj
        rw [c]; split
        · rename_i x
          rw [x]; exact e.symm
        · rfl
      refine ⟨fun j hj => ?_, fun j hj => ?_, fun _ => ⟨by omega, ?_⟩, by omega⟩
      · rw [key j (by omega)]
        obtain ⟨i, hi, e⟩ := ih.mem j (by omega)
        exact ⟨i, by omega, e⟩
      · rw [key j (by omega), key (j + 1) (by omega)]; exact ih.inc j (by omega)
      · rw [a, c, if_pos rfl, Nat.add_sub_cancel]

theorem suf_congr (M N : List (Int × Int)) (hl : M.length = N.length) : ∀ (d j : Nat), M.length - j = d → (∀ i, j ≤ i → i < M.length → (M.getD i (0, 0)).2 = (N.getD i (0, 0)).2) → suf M j = suf N j
  | 0, j, h, _ => by rw [suf_end M j (by omega), suf_end N j (by omega)]
  | d + 1, j, h, k => by
    rw [suf_step M j (by omega), suf_step N j (by omega), k j (Nat.le_refl _) (by omega), suf_congr M N hl d (j + 1) (by omega) (fun i a b => k i (by omega) b)]
theorem suf_append (M : List (Int × Int)) (p : Int × Int) : suf (M ++ [p]) 0 = suf M 0 + p.2 := by
  simp only [suf, List.drop_zero]
  induction M with
  | nil => simp
  | cons q M ih => simp only [List.cons_append, List.foldr_cons, ih]; omega
theorem suf_set_last (M : List (Int × Int)) (a v : Int) (h : 0 < M.length) : suf (M.set (M.length - 1) (a, v)) 0 = suf M 0 - (lastAt M).2 + v := by
  obtain ⟨N, p, rfl⟩ : ∃ N p, M = N ++ [p] := ⟨M.dropLast, M.getLast (by intro e; subst e; simp at h), (List.dropLast_concat_getLast _).symm⟩
  have e : (N ++ [p]).set ((N ++ [p]).length - 1) (a, v) = N ++ [(a, v)] := by simp
  have e2 : lastAt (N ++ [p]) = p := by simp [lastAt]
  rw [e, e2, suf_append, suf_append]; simp only; omega

/-- Checks, counted. -/
theorem mg_ones (sr : List (Int × Int)) : ∀ k, k ≤ 1000000 → (∀ j, j < (mg (fun _ => 1) sr k).length → 1 ≤ ((mg (fun _ => 1) sr k).getD j (0, 0)).2 ∧ ((mg (fun _ => 1) sr k).getD j (0, 0)).2 ≤ k) ∧ suf (mg (fun _ => 1) sr k) 0 = k ∧ sm (fun _ => 1) sr k = k
  | 0, _ => ⟨fun j h => by simp [mg] at h, by simp [mg, suf], rfl⟩
  | k + 1, hk => by
    obtain ⟨h1, h2, h3⟩ := mg_ones sr k (by omega)
    have hsm : sm (fun _ => 1) sr (k + 1) = ((k + 1 : Nat) : Int) := by rw [sm, h3]; unfold wrap64; omega
    rw [mg]
    generalize mg (fun _ => 1) sr k = M at h1 h2
    refine ⟨?_, ?_, hsm⟩
    · cases hs : sameAt M (sr.getD k (0, 0)).1
      · obtain ⟨a, b, c⟩ := tkAdd_new (u := (1 : Int)) hs
        intro j hj
        rw [c]; split
        · simp only; omega
        · have := h1 j (by omega); omega
      · obtain ⟨a, b, e, c⟩ := tkAdd_same (u := (1 : Int)) hs
        intro j hj
        have hl := h1 (M.length - 1) (by omega)
        rw [c]; split
        · unfold lastAt wrap64; simp only; omega
        · have := h1 j (by omega); omega
    · cases hs : sameAt M (sr.getD k (0, 0)).1
      · unfold tkAdd; rw [hs, if_neg (by simp), suf_append, h2]; simp only; omega
      · obtain ⟨a, b, e, c⟩ := tkAdd_same (u := (1 : Int)) hs
        have hl := h1 (M.length - 1) (by omega)
        unfold tkAdd; rw [if_pos hs, suf_set_last M _ _ b, h2]
        have : wrap64 ((lastAt M).2 + 1) = (lastAt M).2 + 1 := by unfold lastAt wrap64; omega
        rw [this]; omega
end Go.Proofs.Qxb6628726a
