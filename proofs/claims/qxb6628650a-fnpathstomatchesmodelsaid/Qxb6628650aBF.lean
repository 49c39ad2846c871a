/-
  BELLMAN AND FORD, plainly (seat b6628650a): the model's lengths are the search's.
-/
import Derived.Test.Qxb6628650aFltB
namespace Go.Proofs.Qxb6628650a
set_option linter.unusedVariables false

/-- Addition, infinity among the words. -/
theorem add_le {x k : Nat} (hx : x ≤ infW) (hk : k < infW) : Ieee.double.add x k = some (addF x k) := by
  by_cases c : x < infW
  · exact add_fin c hk
  · obtain rfl : x = infW := by omega
    have h1 : addF infW k = infW := by
      have := rd_mono (Nat.le_add_right (V infW) (V k))
      rw [rd_V] at this
      unfold addF; omega
    rw [h1]
    unfold Ieee.Format.add
    rw [read_inf, read_fin hk]
    rfl
theorem addF_le (x k : Nat) : addF x k ≤ infW := by unfold addF; omega

/-- One offer: from a to b by a link of length k. -/
structure BFs where
  reach : Nat → Bool
  d : Nat → Nat
def BFs.offer (st : BFs) (a b k : Nat) : BFs :=
  if st.reach a && (!st.reach b || decide (addF (st.d a) k < st.d b)) then
    ⟨fun v => if v = b then true else st.reach v, fun v => if v = b then addF (st.d a) k else st.d v⟩
  else st
theorem offer_reach (st : BFs) (a b k v : Nat) (h : st.reach v = true) : (st.offer a b k).reach v = true := by
  unfold BFs.offer
  split
  · simp only
    by_cases c : v = b
    · rw [if_pos c]
    · rw [if_neg c]; exact h
  · exact h
/-- What was reached is reached, by no longer a way. -/
theorem offer_le (st : BFs) (a b k v : Nat) (h : st.reach v = true) : (st.offer a b k).d v ≤ st.d v := by
  unfold BFs.offer
  split
  · rename_i hc
    simp only
    by_cases c : v = b
    · rw [if_pos c]
      rw [Bool.and_eq_true, Bool.or_eq_true, decide_eq_true_iff] at hc
      rcases hc.2 with e | e
      · rw [← c, h] at e; simp at e
      · rw [c]; omega
    · rw [if_neg c]; exact Nat.le_refl _
  · exact Nat.le_refl _
/-- The offer is taken, or was no better. -/
theorem offer_ok (st : BFs) (a b k : Nat) (ha : st.reach a = true) : (st.offer a b k).reach b = true ∧ (st.offer a b k).d b ≤ addF (st.d a) k := by
  unfold BFs.offer
  split
  · simp
  · rename_i hc
    rw [Bool.and_eq_true, Bool.or_eq_true, decide_eq_true_iff] at hc
    have hb : st.reach b = true := by
      cases e : st.reach b
      · exact absurd ⟨ha, .inl (by rw [e]; rfl)⟩ hc
      · rfl
    refine ⟨hb, ?_⟩
    apply Classical.byContradiction
    intro hn
    exact hc ⟨ha, .inr (by omega)⟩

/-- One round over the first j links, both ways each. -/
def BFs.pass (st : BFs) (f t x : Nat → Nat) : Nat → BFs
  | 0 => st
  | j + 1 => ((st.pass f t x j).offer (f j) (t j) (x j)).offer (t j) (f j) (x j)
theorem offer_keep (st : BFs) (a b k v : Nat) (h : st.reach v = true) : (st.offer a b k).reach v = true ∧ (st.offer a b k).d v ≤ st.d v := ⟨offer_reach st a b k v h, offer_le st a b k v h⟩
theorem pass_later (st : BFs) (f t x : Nat → Nat) (j v : Nat) : ∀ i, (st.pass f t x j).reach v = true → (st.pass f t x (j + i)).reach v = true ∧ (st.pass f t x (j + i)).d v ≤ (st.pass f t x j).d v
  | 0, h => ⟨h, Nat.le_refl _⟩
  | i + 1, h => by
    obtain ⟨a, b⟩ := pass_later st f t x j v i h
    obtain ⟨c, d⟩ := offer_keep (st.pass f t x (j + i)) (f (j + i)) (t (j + i)) (x (j + i)) v a
    obtain ⟨e, g⟩ := offer_keep _ (t (j + i)) (f (j + i)) (x (j + i)) v c
    exact ⟨e, Nat.le_trans g (Nat.le_trans d b)⟩
/-- The lengths are never below km. -/
def Lo (km : Nat → Nat) (st : BFs) : Prop := ∀ v, st.reach v = true → km v < infW ∧ km v ≤ st.d v
theorem Lo.offer {km : Nat → Nat} {st : BFs} (h : Lo km st) (a b k : Nat) (hr : km a < infW → km b < infW ∧ km b ≤ addF (km a) k) : Lo km (st.offer a b k) := by
  intro v hv
  unfold BFs.offer at hv ⊢
  split at hv
  · rename_i hc
    rw [if_pos hc]
    simp only at hv ⊢
    by_cases c : v = b
    · rw [if_pos c, c]
      rw [Bool.and_eq_true] at hc
      obtain ⟨h1, h2⟩ := h a hc.1
      obtain ⟨h3, h4⟩ := hr h1
      exact ⟨h3, Nat.le_trans h4 (addF_mono h2 k)⟩
    · rw [if_neg c] at hv ⊢
      exact h v hv
  · rename_i hc
    rw [if_neg hc]
    exact h v hv
theorem Lo.pass {km : Nat → Nat} {st : BFs} (h : Lo km st) {f t x : Nat → Nat} {m : Nat} (hr : ∀ i, i < m → (km (f i) < infW → km (t i) < infW ∧ km (t i) ≤ addF (km (f i)) (x i)) ∧ (km (t i) < infW → km (f i) < infW ∧ km (f i) ≤ addF (km (t i)) (x i))) : ∀ j, j ≤ m → Lo km (st.pass f t x j)
  | 0, _ => h
  | j + 1, hj => ((h.pass hr j (by omega)).offer _ _ _ (hr j (by omega)).1).offer _ _ _ (hr j (by omega)).2
/-- v has its length. -/
def Up (km : Nat → Nat) (st : BFs) (v : Nat) : Prop := st.reach v = true ∧ st.d v ≤ km v
theorem Up.pass {km : Nat → Nat} {st : BFs} {v : Nat} (h : Up km st v) (f t x : Nat → Nat) (j : Nat) : Up km (st.pass f t x j) v := by
  have := pass_later st f t x 0 v j h.1
  rw [Nat.zero_add] at this
  exact ⟨this.1, Nat.le_trans this.2 h.2⟩
/-- A round hands v its length, if its parent u had it. -/
theorem Up.next {km : Nat → Nat} {st : BFs} {u v i m : Nat} {f t x : Nat → Nat} (h : Up km st u) (hi : i < m) (he : addF (km u) (x i) = km v) (hl : (v = f i ∧ u = t i) ∨ (v = t i ∧ u = f i)) : Up km (st.pass f t x m) v := by
  have hu := h.pass f t x i
  have key : Up km (st.pass f t x (i + 1)) v := by
    show Up km (((st.pass f t x i).offer (f i) (t i) (x i)).offer (t i) (f i) (x i)) v
    rcases hl with ⟨rfl, rfl⟩ | ⟨rfl, rfl⟩
    · obtain ⟨a, b⟩ := offer_keep (st.pass f t x i) (f i) (t i) (x i) (t i) hu.1
      obtain ⟨c, d⟩ := offer_ok ((st.pass f t x i).offer (f i) (t i) (x i)) (t i) (f i) (x i) a
      refine ⟨c, Nat.le_trans d ?_⟩
      rw [← he]
      exact addF_mono (Nat.le_trans b hu.2) _
    · obtain ⟨c, d⟩ := offer_ok (st.pass f t x i) (f i) (t i) (x i) hu.1
      obtain ⟨e, g⟩ := offer_keep ((st.pass f t x i).offer (f i) (t i) (x i)) (t i) (f i) (x i) (t i) c
      refine ⟨e, Nat.le_trans g (Nat.le_trans d ?_)⟩
      rw [← he]
      exact addF_mono hu.2 _
  have := pass_later st f t x (i + 1) v (m - (i + 1)) key.1
  rw [show i + 1 + (m - (i + 1)) = m by omega] at this
  exact ⟨this.1, Nat.le_trans this.2 key.2⟩
end Go.Proofs.Qxb6628650a
