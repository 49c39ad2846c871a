/-
  THE CERTIFICATE, plainly (seat b6628650a): what next holds.
-/
import Derived.Test.Qxb6628650aPaB
import Derived.Test.Qxb6628650aGph
namespace Go.Proofs.Qxb6628650a
set_option linter.unusedVariables false

theorem nxK_yes (adj : Nat → List Lk) (km : Nat → Nat) (S : List Nat) (lab : Nat → ByteArray) (v : Nat) : ∀ k, (∃ i, 0 < i ∧ i < k ∧ S.getD i 0 = v) → nxK adj km S lab k v = nxt adj km S lab v
  | 0, ⟨i, _, h, _⟩ => by omega
  | k + 1, ⟨i, h0, h1, h2⟩ => by
    show (if v = S.getD k 0 ∧ 0 < k then nxt adj km S lab v else nxK adj km S lab k v) = _
    by_cases c : v = S.getD k 0 ∧ 0 < k
    · rw [if_pos c]
    · rw [if_neg c]
      refine nxK_yes adj km S lab v k ⟨i, h0, ?_, h2⟩
      have : i ≠ k := fun e => c ⟨by rw [← h2, e], by omega⟩
      omega
theorem nxK_no (adj : Nat → List Lk) (km : Nat → Nat) (S : List Nat) (lab : Nat → ByteArray) (v : Nat) : ∀ k, (¬ ∃ i, 0 < i ∧ i < k ∧ S.getD i 0 = v) → nxK adj km S lab k v = -1
  | 0, _ => rfl
  | k + 1, h => by
    show (if v = S.getD k 0 ∧ 0 < k then nxt adj km S lab v else nxK adj km S lab k v) = _
    have c : ¬ (v = S.getD k 0 ∧ 0 < k) := fun c => h ⟨k, c.2, by omega, c.1.symm⟩
    rw [if_neg c]
    exact nxK_no adj km S lab v k (fun ⟨i, a, b, d⟩ => h ⟨i, a, by omega, d⟩)

theorem head_getD {S : List Nat} {s : Nat} (h : S.head? = some s) : S.getD 0 0 = s ∧ 0 < S.length := by
  cases S with
  | nil => simp at h
  | cons a l => simp at h; simp [h]
theorem DF.idx {n s : Nat} {adj : Nat → List Lk} {km : Nat → Nat} {S : List Nat} (h : DF n s adj km S) (v : Nat) : (∃ i, 0 < i ∧ i < S.length ∧ S.getD i 0 = v) ↔ (v ∈ S ∧ v ≠ s) := by
  obtain ⟨e0, hp⟩ := head_getD h.head
  constructor
  · rintro ⟨i, a, b, c⟩
    refine ⟨by rw [← c]; simp [b], fun e => ?_⟩
    have r0 := rkK_at h.sn S.length (Nat.le_refl _) 0 hp
    have r1 := rkK_at h.sn S.length (Nat.le_refl _) i b
    rw [e0] at r0
    rw [c, e] at r1
    omega
  · rintro ⟨a, b⟩
    obtain ⟨i, hi, e⟩ := List.getElem_of_mem a
    have e' : S.getD i 0 = v := by simp [hi, e]
    refine ⟨i, ?_, hi, e'⟩
    apply Classical.byContradiction
    intro hz
    have : i = 0 := by omega
    rw [this, e0] at e'
    exact b e'.symm

/-- What next holds at v. -/
theorem next_is {f t x : Nat → Nat} {n m s : Nat} {km : Nat → Nat} {S : List Nat} {lab : Nat → ByteArray} (hl : ∀ j, j < m → f j < n ∧ t j < n ∧ f j ≠ t j) (g : Gr n s (adjK f t x m)) (h : DF n s (adjK f t x m) km S) (v : Nat) :
    (¬ (v ∈ S ∧ v ≠ s) → nxK (adjK f t x m) km S lab S.length v = -1) ∧
    ((v ∈ S ∧ v ≠ s) → ∃ i u, i < m ∧ u ∈ S ∧ rk S u < rk S v ∧ addF (km u) (x i) = km v ∧ ((v = f i ∧ u = t i ∧ nxK (adjK f t x m) km S lab S.length v = ((2 * i : Nat) : Int)) ∨ (v = t i ∧ u = f i ∧ nxK (adjK f t x m) km S lab S.length v = ((2 * i + 1 : Nat) : Int)))) := by
  refine ⟨fun hn => nxK_no _ _ _ _ _ _ (fun hh => hn ((h.idx v).1 hh)), fun hv => ?_⟩
  obtain ⟨j, hb, hj, hc⟩ := best_is (lab := lab) h (adjK_sym hl) hv.1 hv.2
  have hN := nxK_yes (adjK f t x m) km S lab v S.length ((h.idx v).2 hv)
  have hX : nxt (adjK f t x m) km S lab v = ((lk (adjK f t x m) v j).2.2 : Int) := by unfold nxt; rw [hb]
  obtain ⟨i, hi, hh⟩ := (adjK_mem m (fun j hj => (hl j hj).2.2) v _).1 (lk_mem hj)
  unfold cand at hc
  rw [Bool.and_eq_true, decide_eq_true_iff, decide_eq_true_iff] at hc
  have hnear := h.near g hv.1 hj
  have hln := (g.l v (h.sl v hv.1) _ (lk_mem hj)).1
  have hmem := (h.mem _ hln).2 hnear
  rcases hh with ⟨h1, h2⟩ | ⟨h1, h2⟩
  · rw [h2] at hc hX hmem
    exact ⟨i, t i, hi, hmem, hc.1, hc.2, .inl ⟨h1, rfl, by rw [hN, hX]⟩⟩
  · rw [h2] at hc hX hmem
    exact ⟨i, f i, hi, hmem, hc.1, hc.2, .inr ⟨h1, rfl, by rw [hN, hX]⟩⟩

/-- No link offers a shorter way; both its ends are reached, or neither. -/
theorem links_ok {f t x : Nat → Nat} {n m s : Nat} {km : Nat → Nat} {S : List Nat} (hl : ∀ j, j < m → f j < n ∧ t j < n ∧ f j ≠ t j) (g : Gr n s (adjK f t x m)) (h : DF n s (adjK f t x m) km S) (i : Nat) (hi : i < m) :
    (km (f i) < infW ↔ km (t i) < infW) ∧ (km (f i) < infW → km (t i) ≤ addF (km (f i)) (x i) ∧ km (f i) ≤ addF (km (t i)) (x i)) := by
  have hd : ∀ j, j < m → f j ≠ t j := fun j hj => (hl j hj).2.2
  obtain ⟨a, b, c⟩ := hl i hi
  obtain ⟨p, hp, ep⟩ := lk_of_mem ((adjK_mem m hd (f i) (t i, x i, 2 * i)).2 ⟨i, hi, .inl ⟨rfl, rfl⟩⟩)
  obtain ⟨q, hq, eq⟩ := lk_of_mem ((adjK_mem m hd (t i) (f i, x i, 2 * i + 1)).2 ⟨i, hi, .inr ⟨rfl, rfl⟩⟩)
  have k1 : km (f i) < infW → km (t i) < infW := fun hf => by
    have := h.near g ((h.mem _ a).2 hf) hp
    rw [ep] at this; exact this
  have k2 : km (t i) < infW → km (f i) < infW := fun hf => by
    have := h.near g ((h.mem _ b).2 hf) hq
    rw [eq] at this; exact this
  refine ⟨⟨k1, k2⟩, fun hf => ⟨?_, ?_⟩⟩
  · have := h.rel _ ((h.mem _ a).2 hf) p hp
    rw [ep] at this; exact this
  · have := h.rel _ ((h.mem _ b).2 (k1 hf)) q hq
    rw [eq] at this; exact this

/-- The lengths of a way, added outwards from its end, whose own length is z. -/
def waySum (lens : List Nat) (z : Nat) : Nat := lens.foldr (fun l acc => addF acc l) z
theorem waySum_snoc (lens : List Nat) (l z : Nat) : waySum (lens ++ [l]) z = waySum lens (addF z l) := by simp [waySum]
theorem waySum_drop (lens : List Nat) (z j : Nat) (h : j < lens.length) : waySum (lens.drop j) z = addF (waySum (lens.drop (j + 1)) z) (lens.getD j 0) := by
  have e : lens.getD j 0 = lens[j] := by simp [h]
  rw [e, List.drop_eq_getElem_cons h]
  rfl
/-- Every way's lengths are bounded as long as its sum is a node's. -/
theorem waySum_nil (z : Nat) : waySum [] z = z := rfl
/-- One step along next. -/
theorem way_step {km : Nat → Nat} {v c u l : Nat} {lens : List Nat} (h : waySum lens (km c) = km v) (e : addF (km u) l = km c) : waySum (lens ++ [l]) (km u) = km v := by
  rw [waySum_snoc, e]; exact h
theorem rk_lt {n s : Nat} {adj : Nat → List Lk} {km : Nat → Nat} {S : List Nat} (g : Gr n s adj) (h : DF n s adj km S) (v : Nat) (hv : v ∈ S) : rk S v < n := by
  obtain ⟨i, hi, e⟩ := List.getElem_of_mem hv
  have e' : S.getD i 0 = v := by simp [hi, e]
  have r := rkK_at h.sn S.length (Nat.le_refl _) i hi
  rw [e'] at r
  have := nodup_le n S h.sn h.sl
  unfold rk
  omega
end Go.Proofs.Qxb6628650a
