/-
  THE GRAPH THAT zzBuild LAYS (seat b6628650a), plainly.
-/
import Derived.Test.Qxb6628650aBldC
namespace Go.Proofs.Qxb6628650a
set_option linter.unusedVariables false

/-- The links at each node, behind the first k links of the file. -/
def adjS (A : Nat → List Lk) (a b x k : Nat) : Nat → List Lk :=
  updV (updV A a (A a ++ [(b, x, 2 * k)])) b (updV A a (A a ++ [(b, x, 2 * k)]) b ++ [(a, x, 2 * k + 1)])
def adjK (f t x : Nat → Nat) : Nat → Nat → List Lk
  | 0 => fun _ => []
  | k + 1 => adjS (adjK f t x k) (f k) (t k) (x k) k

theorem adjK_len (f t x : Nat → Nat) : ∀ k v, (adjK f t x k v).length ≤ 2 * k
  | 0, v => by simp [adjK]
  | k + 1, v => by
    have h := adjK_len f t x k
    show (adjS (adjK f t x k) (f k) (t k) (x k) k v).length ≤ _
    have h1 : ∀ u, (updV (adjK f t x k) (f k) (adjK f t x k (f k) ++ [(t k, x k, 2 * k)]) u).length ≤ 2 * k + 1 := fun u => by
      by_cases c : u = f k
      · rw [c, updV_at, List.length_append]; have := h (f k); simp; omega
      · rw [updV_ne c]; have := h u; omega
    unfold adjS
    by_cases c : v = t k
    · rw [c, updV_at, List.length_append]; have := h1 (t k); simp; omega
    · rw [updV_ne c]; have := h1 v; omega

theorem adjS_mem {A : Nat → List Lk} {a b x k v : Nat} (hab : a ≠ b) (l : Lk) : l ∈ adjS A a b x k v ↔ l ∈ A v ∨ (v = a ∧ l = (b, x, 2 * k)) ∨ (v = b ∧ l = (a, x, 2 * k + 1)) := by
  unfold adjS
  by_cases cb : v = b
  · subst cb
    rw [updV_at, updV_ne (Ne.symm hab), List.mem_append, List.mem_singleton]
    constructor
    · rintro (h | h)
      · exact .inl h
      · exact .inr (.inr ⟨rfl, h⟩)
    · rintro (h | ⟨h, _⟩ | ⟨_, h⟩)
      · exact .inl h
      · exact absurd h.symm hab
      · exact .inr h
  · rw [updV_ne cb]
    by_cases ca : v = a
    · subst ca
      rw [updV_at, List.mem_append, List.mem_singleton]
      constructor
      · rintro (h | h)
        · exact .inl h
        · exact .inr (.inl ⟨rfl, h⟩)
      · rintro (h | ⟨_, h⟩ | ⟨h, _⟩)
        · exact .inl h
        · exact .inr h
        · exact absurd h cb
    · rw [updV_ne ca]
      constructor
      · exact fun h => .inl h
      · rintro (h | ⟨h, _⟩ | ⟨h, _⟩)
        · exact h
        · exact absurd h ca
        · exact absurd h cb
theorem adjK_mem {f t x : Nat → Nat} : ∀ k, (∀ j, j < k → f j ≠ t j) → ∀ v (l : Lk), l ∈ adjK f t x k v ↔ ∃ j, j < k ∧ ((v = f j ∧ l = (t j, x j, 2 * j)) ∨ (v = t j ∧ l = (f j, x j, 2 * j + 1)))
  | 0, _, v, l => by
    constructor
    · intro h; simp [adjK] at h
    · rintro ⟨j, hj, _⟩; omega
  | k + 1, hd, v, l => by
    have ih := adjK_mem (x := x) k (fun j hj => hd j (by omega)) v l
    show l ∈ adjS (adjK f t x k) (f k) (t k) (x k) k v ↔ _
    rw [adjS_mem (hd k (by omega)), ih]
    constructor
    · rintro (⟨j, hj, h⟩ | h | h)
      · exact ⟨j, by omega, h⟩
      · exact ⟨k, by omega, .inl h⟩
      · exact ⟨k, by omega, .inr h⟩
    · rintro ⟨j, hj, h⟩
      by_cases c : j = k
      · subst c
        rcases h with h | h
        · exact .inr (.inl h)
        · exact .inr (.inr h)
      · exact .inl ⟨j, by omega, h⟩

theorem lk_of_mem {adj : Nat → List Lk} {v : Nat} {l : Lk} (h : l ∈ adj v) : ∃ i, i < (adj v).length ∧ lk adj v i = l := by
  obtain ⟨i, hi, e⟩ := List.getElem_of_mem h
  exact ⟨i, hi, by simp [lk, hi, e]⟩
theorem adjK_gr {f t x : Nat → Nat} {n m s : Nat} (hs : s < n) (hn : n ≤ 256) (hm : m ≤ 4096) (hl : ∀ j, j < m → f j < n ∧ t j < n ∧ f j ≠ t j) (hx : ∀ j, j < m → minW ≤ x j ∧ x j ≤ maxW) : Gr n s (adjK f t x m) := by
  refine ⟨hs, hn, fun u hu l hl' => ?_, fun u hu => by have := adjK_len f t x m u; omega⟩
  obtain ⟨j, hj, h⟩ := (adjK_mem m (fun j hj => (hl j hj).2.2) u l).1 hl'
  obtain ⟨a, b, c⟩ := hl j hj
  obtain ⟨d, e⟩ := hx j hj
  rcases h with ⟨_, rfl⟩ | ⟨_, rfl⟩
  · exact ⟨b, d, e⟩
  · exact ⟨a, d, e⟩
theorem adjK_sym {f t x : Nat → Nat} {n m : Nat} (hl : ∀ j, j < m → f j < n ∧ t j < n ∧ f j ≠ t j) : Sym n (adjK f t x m) := by
  intro u hu j hj
  have hd : ∀ j, j < m → f j ≠ t j := fun j hj => (hl j hj).2.2
  obtain ⟨i, hi, h⟩ := (adjK_mem m hd u _).1 (lk_mem hj)
  rcases h with ⟨h1, h2⟩ | ⟨h1, h2⟩
  · rw [h2]
    obtain ⟨q, hq, e⟩ := lk_of_mem ((adjK_mem m hd (t i) (f i, x i, 2 * i + 1)).2 ⟨i, hi, .inr ⟨rfl, rfl⟩⟩)
    exact ⟨q, hq, by rw [e, h1], by rw [e]⟩
  · rw [h2]
    obtain ⟨q, hq, e⟩ := lk_of_mem ((adjK_mem m hd (f i) (t i, x i, 2 * i)).2 ⟨i, hi, .inl ⟨rfl, rfl⟩⟩)
    exact ⟨q, hq, by rw [e, h1], by rw [e]⟩
end Go.Proofs.Qxb6628650a
