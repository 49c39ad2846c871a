/-
  BELLMAN AND FORD, done (seat b6628650a): the model's lengths are the search's.
-/
import Derived.Test.Qxb6628650aCrt
import Derived.Test.Qxb6628650aBF
namespace Go.Proofs.Qxb6628650a
set_option linter.unusedVariables false

def BFs.rounds (st : BFs) (f t x : Nat → Nat) (m : Nat) : Nat → BFs
  | 0 => st
  | r + 1 => (st.rounds f t x m r).pass f t x m

theorem parent_of {f t x : Nat → Nat} {n m s : Nat} {km : Nat → Nat} {S : List Nat} (hl : ∀ j, j < m → f j < n ∧ t j < n ∧ f j ≠ t j) (g : Gr n s (adjK f t x m)) (h : DF n s (adjK f t x m) km S) {v : Nat} (hv : v ∈ S) (hs : v ≠ s) :
    ∃ i u, i < m ∧ u ∈ S ∧ rk S u < rk S v ∧ addF (km u) (x i) = km v ∧ ((v = f i ∧ u = t i) ∨ (v = t i ∧ u = f i)) := by
  obtain ⟨i, u, a, b, c, d, e⟩ := (next_is (lab := fun _ => ⟨#[]⟩) hl g h v).2 ⟨hv, hs⟩
  refine ⟨i, u, a, b, c, d, ?_⟩
  rcases e with ⟨p, q, _⟩ | ⟨p, q, _⟩
  · exact .inl ⟨p, q⟩
  · exact .inr ⟨p, q⟩

theorem rounds_up {f t x : Nat → Nat} {n m s : Nat} {km : Nat → Nat} {S : List Nat} (hl : ∀ j, j < m → f j < n ∧ t j < n ∧ f j ≠ t j) (g : Gr n s (adjK f t x m)) (h : DF n s (adjK f t x m) km S) (st : BFs) (h0 : Up km st s) : ∀ r v, v ∈ S → rk S v ≤ r → Up km (st.rounds f t x m r) v
  | 0, v, hv, hr => by
    by_cases c : v = s
    · rw [c]; exact h0
    · obtain ⟨i, u, _, _, hlt, _⟩ := parent_of hl g h hv c
      omega
  | r + 1, v, hv, hr => by
    by_cases c : v = s
    · have hs : s ∈ S := by rw [← c]; exact hv
      have ih : Up km (st.rounds f t x m r) s := by
        by_cases d : rk S s ≤ r
        · exact rounds_up hl g h st h0 r s hs d
        · have : ∀ r, Up km (st.rounds f t x m r) s := fun r => by
            induction r with
            | zero => exact h0
            | succ r ih => exact ih.pass f t x m
          exact this r
      rw [c]; exact ih.pass f t x m
    · obtain ⟨i, u, hi, hu, hlt, he, hc⟩ := parent_of hl g h hv c
      exact (rounds_up hl g h st h0 r u hu (by omega)).next hi he hc

/-- A round that changes nothing: all is done. -/
theorem fix_up {f t x : Nat → Nat} {n m s : Nat} {km : Nat → Nat} {S : List Nat} (hl : ∀ j, j < m → f j < n ∧ t j < n ∧ f j ≠ t j) (g : Gr n s (adjK f t x m)) (h : DF n s (adjK f t x m) km S) (st : BFs) (h0 : Up km st s) (hf : st.pass f t x m = st) : ∀ r v, v ∈ S → rk S v ≤ r → Up km st v := by
  intro r v hv hr
  have e : ∀ r, st.rounds f t x m r = st := fun r => by
    induction r with
    | zero => rfl
    | succ r ih => show (st.rounds f t x m r).pass f t x m = st; rw [ih, hf]
  have := rounds_up hl g h st h0 r v hv hr
  rw [e r] at this
  exact this

/-- The model's answer. -/
theorem bf_is {f t x : Nat → Nat} {n m s : Nat} {km : Nat → Nat} {S : List Nat} (h : DF n s (adjK f t x m) km S) (st : BFs) (lo : Lo km st) (up : ∀ v, v ∈ S → Up km st v) (v : Nat) (hv : v < n) : (st.reach v = true ↔ v ∈ S) ∧ (v ∈ S → st.d v = km v) := by
  refine ⟨⟨fun hr => (h.mem v hv).2 (lo v hr).1, fun hs => (up v hs).1⟩, fun hs => ?_⟩
  have a := (up v hs).2
  have b := (lo v (up v hs).1).2
  omega
end Go.Proofs.Qxb6628650a
