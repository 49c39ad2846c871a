/-
  THE MODEL, plainly (seat b6628650a): its lengths, its choice of the next arc.
-/
import Derived.Test.Qxb6628650aMK
namespace Go.Proofs.Qxb6628650a
set_option linter.unusedVariables false

theorem Lo.rounds {km : Nat → Nat} {st : BFs} (h : Lo km st) {f t x : Nat → Nat} {m : Nat} (hr : ∀ i, i < m → (km (f i) < infW → km (t i) < infW ∧ km (t i) ≤ addF (km (f i)) (x i)) ∧ (km (t i) < infW → km (f i) < infW ∧ km (f i) ≤ addF (km (t i)) (x i))) : ∀ r, Lo km (st.rounds f t x m r)
  | 0 => h
  | r + 1 => (Lo.rounds h hr r).pass hr m (Nat.le_refl _)
theorem Up.rounds {km : Nat → Nat} {st : BFs} {v : Nat} (h : Up km st v) (f t x : Nat → Nat) (m : Nat) : ∀ r, Up km (st.rounds f t x m r) v
  | 0 => h
  | r + 1 => (Up.rounds h f t x m r).pass f t x m

/-- The model's lengths are the search's. -/
theorem BFin.is {f t x : Nat → Nat} {n m s : Nat} {km : Nat → Nat} {S : List Nat} {st : BFs} (hb : BFin s n m f t x st) (hl : ∀ j, j < m → f j < n ∧ t j < n ∧ f j ≠ t j) (g : Gr n s (adjK f t x m)) (h : DF n s (adjK f t x m) km S) (v : Nat) (hv : v < n) :
    (st.reach v = true ↔ v ∈ S) ∧ (v ∈ S → st.d v = km v) := by
  obtain ⟨r, e, hr⟩ := hb
  have up0 : Up km (BFs.start s) s := ⟨by simp [BFs.start], by simp [BFs.start]⟩
  have lo0 : Lo km (BFs.start s) := fun u hu => by
    by_cases c : u = s
    · rw [c, h.z]; exact ⟨by decide, by simp [BFs.start]⟩
    · simp [BFs.start, c] at hu
  have hlk : ∀ i, i < m → (km (f i) < infW → km (t i) < infW ∧ km (t i) ≤ addF (km (f i)) (x i)) ∧ (km (t i) < infW → km (f i) < infW ∧ km (f i) ≤ addF (km (t i)) (x i)) := fun i hi => by
    obtain ⟨a, b⟩ := links_ok hl g h i hi
    exact ⟨fun c => ⟨a.1 c, (b c).1⟩, fun c => ⟨a.2 c, (b (a.2 c)).2⟩⟩
  refine bf_is h st (by rw [e]; exact lo0.rounds hlk r) (fun u hu => ?_) v hv
  rcases hr with hr | hr
  · rw [e]
    exact rounds_up hl g h _ up0 r u hu (by have := rk_lt g h u hu; omega)
  · exact fix_up hl g h st (by rw [e]; exact up0.rounds f t x m r) hr (rk S u) u hu (Nat.le_refl _)

/-- One candidate more. -/
def blF (c : Lk → Bool) (lab : Nat → ByteArray) (acc : Option Lk) (l : Lk) : Option Lk :=
  if c l then (match acc with
    | none => some l
    | some b => if nb lab l.1 b.1 then some l else some b) else acc

def cndL (km : Nat → Nat) (S : List Nat) (v : Nat) (l : Lk) : Bool := decide (rk S l.1 < rk S v) && decide (addF (km l.1) l.2.1 = km v)

theorem bst_fold (adj : Nat → List Lk) (km : Nat → Nat) (S : List Nat) (lab : Nat → ByteArray) (v : Nat) : ∀ k, k ≤ (adj v).length → (bst adj km S lab v k).map (lk adj v) = ((adj v).take k).foldl (blF (cndL km S v) lab) none
  | 0, _ => rfl
  | k + 1, hk => by
    have ih := bst_fold adj km S lab v k (by omega)
    have e : (adj v).take (k + 1) = (adj v).take k ++ [lk adj v k] := by
      rw [List.take_add_one, List.getElem?_eq_getElem (by omega)]
      simp [lk, show k < (adj v).length by omega]
    rw [e, List.foldl_append, ← ih]
    show (if cand adj km S v k then _ else _ : Option Nat).map (lk adj v) = blF (cndL km S v) lab ((bst adj km S lab v k).map (lk adj v)) (lk adj v k)
    unfold blF
    have hc : cndL km S v (lk adj v k) = cand adj km S v k := rfl
    rw [hc]
    cases cand adj km S v k
    · rfl
    · cases bst adj km S lab v k with
      | none => rfl
      | some b =>
        simp only [if_true, Option.map_some]
        cases nb lab (lk adj v k).1 (lk adj v b).1 <;> rfl

/-- The model's choice at v, behind the first k links. -/
def chK (c : Lk → Bool) (lab : Nat → ByteArray) (f t x : Nat → Nat) (v : Nat) : Nat → Option Lk
  | 0 => none
  | k + 1 => if f k = v then blF c lab (chK c lab f t x v k) (t k, x k, 2 * k) else if t k = v then blF c lab (chK c lab f t x v k) (f k, x k, 2 * k + 1) else chK c lab f t x v k

theorem adj_fold (c : Lk → Bool) (lab : Nat → ByteArray) {f t x : Nat → Nat} (v : Nat) : ∀ k, (∀ j, j < k → f j ≠ t j) → (adjK f t x k v).foldl (blF c lab) none = chK c lab f t x v k
  | 0, _ => rfl
  | k + 1, h => by
    have ih := adj_fold c lab (f := f) (t := t) (x := x) v k (fun j hj => h j (by omega))
    have hd := h k (by omega)
    show (adjS (adjK f t x k) (f k) (t k) (x k) k v).foldl _ none = (if f k = v then _ else _)
    unfold adjS
    by_cases c1 : f k = v
    · rw [if_pos c1, updV_ne (by omega), ← c1, updV_at, List.foldl_append, c1, ih]
      rfl
    · rw [if_neg c1]
      by_cases c2 : t k = v
      · rw [if_pos c2, ← c2, updV_at, updV_ne (fun e => hd e.symm), List.foldl_append, c2, ih]
        rfl
      · rw [if_neg c2, updV_ne (by omega), updV_ne (by omega), ih]

theorem foldl_same {α β : Type} (F G : α → β → α) : ∀ (l : List β) (a : α), (∀ a, ∀ b ∈ l, F a b = G a b) → l.foldl F a = l.foldl G a
  | [], _, _ => rfl
  | b :: l, a, h => by
    rw [List.foldl_cons, List.foldl_cons, h a b (by simp)]
    exact foldl_same F G l _ (fun a c hc => h a c (by simp [hc]))

/-- Is the link a candidate, for the model? -/
def mCnd (st : BFs) (v : Nat) (l : Lk) : Bool := st.reach l.1 && decide (addF (st.d l.1) l.2.1 = st.d v)

/-- The model's candidates are the search's. -/
theorem cnd_same {f t x : Nat → Nat} {n m s : Nat} {km : Nat → Nat} {S : List Nat} {st : BFs} (hb : BFin s n m f t x st) (hl : ∀ j, j < m → f j < n ∧ t j < n ∧ f j ≠ t j) (g : Gr n s (adjK f t x m)) (h : DF n s (adjK f t x m) km S) {v : Nat} (hv : v ∈ S) (l : Lk) (hm : l ∈ adjK f t x m v) :
    cndL km S v l = mCnd st v l := by
  have hvn := h.sl v hv
  obtain ⟨hln, hk1, hk2⟩ := g.l v hvn l hm
  have hM := hb.is hl g h l.1 hln
  have hV := (hb.is hl g h v hvn).2 hv
  have hS : l.1 ∈ S := by
    obtain ⟨j, hj, e⟩ := lk_of_mem hm
    have := h.near g hv hj
    rw [e] at this
    exact (h.mem _ hln).2 this
  have hr : st.reach l.1 = true := hM.1.2 hS
  have hd : st.d l.1 = km l.1 := hM.2 hS
  unfold cndL mCnd
  rw [hr, hd, hV, Bool.true_and]
  by_cases c : addF (km l.1) l.2.1 = km v
  · have hfin := (h.mem _ hln).1 hS
    have hlt : km l.1 < km v := by
      rw [← c]
      refine addF_gt (Nat.le_trans (h.bd _ hln hfin) ?_) hk1 hfin
      exact Nat.mul_le_mul_right _ (by omega)
    have hrk : rk S l.1 < rk S v := by
      apply Classical.byContradiction
      intro hn
      obtain ⟨i, hi, ei⟩ := List.getElem_of_mem hv
      obtain ⟨j, hj, ej⟩ := List.getElem_of_mem hS
      have ei' : S.getD i 0 = v := by simp [hi, ei]
      have ej' : S.getD j 0 = l.1 := by simp [hj, ej]
      have r1 := rkK_at h.sn S.length (Nat.le_refl _) i hi
      have r2 := rkK_at h.sn S.length (Nat.le_refl _) j hj
      rw [ei'] at r1
      rw [ej'] at r2
      unfold rk at hn
      have := h.so i j (by omega) hj
      rw [ei', ej'] at this
      omega
    rw [decide_eq_true hrk, Bool.true_and]
  · rw [decide_eq_false c, Bool.and_false]

/-- The arc the model wants at v. -/
def wantL : Option Lk → Int
  | none => -1
  | some l => (l.2.2 : Int)
theorem want_is {f t x : Nat → Nat} {n m s : Nat} {km : Nat → Nat} {S : List Nat} {lab : Nat → ByteArray} {st : BFs} (hb : BFin s n m f t x st) (hl : ∀ j, j < m → f j < n ∧ t j < n ∧ f j ≠ t j) (g : Gr n s (adjK f t x m)) (h : DF n s (adjK f t x m) km S) {v : Nat} (hv : v ∈ S) (hs : v ≠ s) :
    nxK (adjK f t x m) km S lab S.length v = wantL (chK (mCnd st v) lab f t x v m) := by
  have hN := nxK_yes (adjK f t x m) km S lab v S.length ((h.idx v).2 ⟨hv, hs⟩)
  have hX : nxt (adjK f t x m) km S lab v = wantL ((bst (adjK f t x m) km S lab v (adjK f t x m v).length).map (lk (adjK f t x m) v)) := by
    unfold nxt
    cases bst (adjK f t x m) km S lab v (adjK f t x m v).length <;> rfl
  rw [hN, hX, bst_fold _ _ _ _ _ _ (Nat.le_refl _), List.take_length, ← adj_fold _ _ v m (fun j hj => (hl j hj).2.2)]
  congr 1
  refine foldl_same _ _ _ _ (fun a l hm => ?_)
  unfold blF
  rw [cnd_same hb hl g h hv l hm]
end Go.Proofs.Qxb6628650a
