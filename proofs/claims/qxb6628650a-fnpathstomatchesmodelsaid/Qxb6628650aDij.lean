/-
  DIJKSTRA's SEARCH, plainly (seat b6628650a).
-/
import Derived.Test.Qxb6628650aFltB
namespace Go.Proofs.Qxb6628650a
set_option linter.unusedVariables false

abbrev Lk : Type := Nat × Nat × Nat
/-- The graph: each node's links (to, length, arc). -/
structure Gr (n s : Nat) (adj : Nat → List Lk) : Prop where
  hs : s < n
  hn : n ≤ 256
  l : ∀ u, u < n → ∀ l ∈ adj u, l.1 < n ∧ minW ≤ l.2.1 ∧ l.2.1 ≤ maxW
  d : ∀ u, u < n → (adj u).length ≤ 10000

def lk (adj : Nat → List Lk) (u j : Nat) : Lk := (adj u).getD j (0, 0, 0)
theorem lk_mem {adj : Nat → List Lk} {u j : Nat} (h : j < (adj u).length) : lk adj u j ∈ adj u := by simp [lk, h]
def before (S : List Nat) (u v : Nat) : Prop := ∃ i j : Nat, S[i]? = some u ∧ S[j]? = some v ∧ i < j
theorem before_app {S : List Nat} {u v : Nat} (h : before S u v) (x : Nat) : before (S ++ [x]) u v := by
  obtain ⟨i, j, a, b, c⟩ := h
  have h1 := (List.getElem?_eq_some_iff.1 a).1
  have h2 := (List.getElem?_eq_some_iff.1 b).1
  exact ⟨i, j, by rw [List.getElem?_append_left h1]; exact a, by rw [List.getElem?_append_left h2]; exact b, c⟩
theorem before_new {S : List Nat} {u : Nat} (h : u ∈ S) (x : Nat) : before (S ++ [x]) u x := by
  obtain ⟨i, hi, e⟩ := List.getElem_of_mem h
  exact ⟨i, S.length, by rw [List.getElem?_append_left hi, List.getElem?_eq_getElem hi, e], by simp, hi⟩

theorem nodup_le : ∀ (n : Nat) (S : List Nat), S.Nodup → (∀ v ∈ S, v < n) → S.length ≤ n
  | 0, S, _, h => by
    cases S with
    | nil => simp
    | cons a l => exact absurd (h a (by simp)) (by omega)
  | n + 1, S, hd, h => by
    by_cases c : n ∈ S
    · have ih := nodup_le n (S.erase n) (hd.erase n) (fun v hv => by
        have a := h v (List.mem_of_mem_erase hv)
        have b : v ≠ n := fun e => by rw [e] at hv; exact (List.Nodup.not_mem_erase hd) hv
        omega)
      have := List.length_erase_of_mem c
      omega
    · have := nodup_le n S hd (fun v hv => by
        have a := h v hv
        have b : v ≠ n := fun e => c (by rw [← e]; exact hv)
        omega)
      omega

/-- The search's state: lengths km, settled nodes S, queue q; of u the first i links are relaxed. -/
structure DX (n s : Nat) (adj : Nat → List Lk) (km : Nat → Nat) (S : List Nat) (q : List (Nat × Nat)) (u i : Nat) : Prop where
  sn : S.Nodup
  sl : ∀ v ∈ S, v < n ∧ km v < infW
  ql : ∀ e ∈ q, e.1 < n ∧ e.2 < infW ∧ km e.1 ≤ e.2
  qn : q.Nodup
  wait : ∀ v, v < n → v ∉ S → km v < infW → (v, km v) ∈ q
  old : ∀ v ∈ S, ∀ e ∈ q, e.1 = v → km v < e.2
  ord : ∀ v ∈ S, ∀ e ∈ q, km v ≤ e.2
  rel : ∀ x ∈ S, ∀ j, j < (adj x).length → (x ≠ u ∨ j < i) → km (lk adj x j).1 ≤ addF (km x) (lk adj x j).2.1
  pr : ∀ v, v < n → km v < infW → v ≠ s → ∃ x ∈ S, ∃ j, j < (adj x).length ∧ (lk adj x j).1 = v ∧ km v = addF (km x) (lk adj x j).2.1 ∧ (v ∈ S → before S x v)
  bd : ∀ v, v < n → km v < infW → V (km v) ≤ S.length * U
  z : km s = 0
  le : ∀ v, v < n → km v ≤ infW
  h0 : S = [] → ∀ v, v < n → v ≠ s → km v = infW
  h1 : S ≠ [] → S.head? = some s
  so : ∀ i j, i ≤ j → j < S.length → km (S.getD i 0) ≤ km (S.getD j 0)

theorem DX.start {n s : Nat} {adj : Nat → List Lk} (h : Gr n s adj) (u i : Nat) : DX n s adj (fun v => if v = s then 0 else infW) [] [(s, 0)] u i := by
  refine ⟨by simp, fun v hv => by simp at hv, fun e he => ?_, by simp, fun v hv _ hf => ?_, fun v hv => by simp at hv, fun v hv => by simp at hv, fun v hv => by simp at hv, fun v hv hf hne => ?_, fun v hv hf => ?_, by simp, fun v hv => ?_, fun _ v hv hne => by simp [hne], fun h => absurd rfl h, fun i j _ hj => by simp at hj⟩
  · simp at he; subst he; exact ⟨h.hs, by show (0 : Nat) < infW; decide, by simp⟩
  · by_cases c : v = s
    · simp [c]
    · simp [c] at hf
  · simp [hne] at hf
  · by_cases c : v = s
    · simp [c, V, magW]
    · simp [c] at hf
  · by_cases c : v = s
    · simp [c]
    · simp [c]

theorem DX.skip {n s : Nat} {adj : Nat → List Lk} {km : Nat → Nat} {S : List Nat} {q q' : List (Nat × Nat)} {u i : Nat} {x : Nat × Nat} (h : DX n s adj km S q u i) (hp : (x :: q').Perm q) (hx : km x.1 < x.2) : DX n s adj km S q' u i := by
  have sub : ∀ e ∈ q', e ∈ q := fun e he => hp.mem_iff.1 (by simp [he])
  have nd : (x :: q').Nodup := hp.nodup_iff.2 h.qn
  refine ⟨h.sn, h.sl, fun e he => h.ql e (sub e he), (List.nodup_cons.1 nd).2, fun v hv hs hf => ?_, fun v hv e he => h.old v hv e (sub e he), fun v hv e he => h.ord v hv e (sub e he), h.rel, h.pr, h.bd, h.z, h.le, h.h0, h.h1, h.so⟩
  have := hp.mem_iff.2 (h.wait v hv hs hf)
  rcases List.mem_cons.1 this with e | e
  · rw [← e] at hx; simp at hx
  · exact e

theorem DX.settle {n s : Nat} {adj : Nat → List Lk} {km : Nat → Nat} {S : List Nat} {q q' : List (Nat × Nat)} {u : Nat} {x : Nat × Nat} (h : DX n s adj km S q u (adj u).length) (hp : (x :: q').Perm q) (hx : ¬ km x.1 < x.2) (hmin : ∀ y ∈ q, x.2 ≤ y.2) :
    DX n s adj km (S ++ [x.1]) q' x.1 0 ∧ (∀ v ∈ S ++ [x.1], km v ≤ km x.1) ∧ V (km x.1) ≤ S.length * U ∧ x.2 = km x.1 := by
  have sub : ∀ e ∈ q', e ∈ q := fun e he => hp.mem_iff.1 (by simp [he])
  have nd : (x :: q').Nodup := hp.nodup_iff.2 h.qn
  have hxq : x ∈ q := hp.mem_iff.1 (by simp)
  obtain ⟨x1, x2, x3⟩ := h.ql x hxq
  have hk : x.2 = km x.1 := by omega
  have hns : x.1 ∉ S := fun hs => by have := h.old x.1 hs x hxq rfl; omega
  have hmx : ∀ v ∈ S ++ [x.1], km v ≤ km x.1 := fun v hv => by
    rcases List.mem_append.1 hv with a | a
    · have := h.ord v a x hxq; omega
    · simp at a; rw [a]; exact Nat.le_refl _
  refine ⟨⟨?_, fun v hv => ?_, fun e he => h.ql e (sub e he), (List.nodup_cons.1 nd).2, fun v hv hs hf => ?_, fun v hv e he hev => ?_, fun v hv e he => ?_, fun y hy j hj hc => ?_, fun v hv hf hne => ?_, fun v hv hf => ?_, h.z, h.le, fun e => by simp at e, fun _ => ?_, fun i j hij hj => ?_⟩, hmx, h.bd x.1 x1 (by omega), hk⟩
  · rw [List.nodup_append]
    refine ⟨h.sn, by simp, fun a ha b hb => ?_⟩
    simp at hb; intro e; rw [e, hb] at ha; exact hns ha
  · rcases List.mem_append.1 hv with a | a
    · exact h.sl v a
    · simp at a; subst a; exact ⟨x1, by omega⟩
  · have hs' : v ∉ S := fun a => hs (List.mem_append_left _ a)
    have hvx : v ≠ x.1 := fun a => hs (by simp [a])
    have := hp.mem_iff.2 (h.wait v hv hs' hf)
    rcases List.mem_cons.1 this with e | e
    · exact absurd (congrArg Prod.fst e) hvx
    · exact e
  · rcases List.mem_append.1 hv with a | a
    · exact h.old v a e (sub e he) hev
    · simp at a
      have b := (h.ql e (sub e he)).2.2
      rw [hev, a] at b
      rw [a]
      have : e.2 ≠ km x.1 := fun c => by
        have : e = x := Prod.ext (by rw [hev, a]) (by rw [c, hk])
        rw [this] at he
        exact (List.nodup_cons.1 nd).1 he
      omega
  · rcases List.mem_append.1 hv with a | a
    · exact h.ord v a e (sub e he)
    · simp at a; rw [a, ← hk]; exact hmin e (sub e he)
  · rcases List.mem_append.1 hy with a | a
    · exact h.rel y a j hj (by
        by_cases c : y = u
        · right; rw [← c]; exact hj
        · left; exact c)
    · simp at a
      rcases hc with c | c
      · exact absurd a c
      · omega
  · obtain ⟨y, hy, j, hj, e1, e2, e3⟩ := h.pr v hv hf hne
    refine ⟨y, List.mem_append_left _ hy, j, hj, e1, e2, fun hvs => ?_⟩
    rcases List.mem_append.1 hvs with a | a
    · exact before_app (e3 a) _
    · simp at a; rw [a]; exact before_new hy _
  · have := h.bd v hv hf
    refine Nat.le_trans this (Nat.mul_le_mul_right _ (by simp))
  · by_cases c : S = []
    · have hs : x.1 = s := by
        apply Classical.byContradiction
        intro hne
        have := h.h0 c x.1 x1 hne
        omega
      rw [c, hs]; rfl
    · have := h.h1 c
      rw [List.head?_append, this]; rfl
  · rw [List.length_append, List.length_singleton] at hj
    by_cases c : j < S.length
    · have e1 : (S ++ [x.1]).getD i 0 = S.getD i 0 := by simp [List.getElem?_append, show i < S.length by omega]
      have e2 : (S ++ [x.1]).getD j 0 = S.getD j 0 := by simp [List.getElem?_append, c]
      rw [e1, e2]; exact h.so i j hij c
    · have e2 : (S ++ [x.1]).getD j 0 = x.1 := by simp [show j = S.length by omega]
      rw [e2]
      refine hmx _ ?_
      have : i < (S ++ [x.1]).length := by simp; omega
      simp only [List.getD_eq_getElem?_getD, List.getElem?_eq_getElem this, Option.getD_some]
      exact List.getElem_mem this

/-- One link of u is looked at, and is no shorter way. -/
theorem DX.stay {n s : Nat} {adj : Nat → List Lk} {km : Nat → Nat} {S : List Nat} {q : List (Nat × Nat)} {u i : Nat} (h : DX n s adj km S q u i) (hd : ¬ addF (km u) (lk adj u i).2.1 < km (lk adj u i).1) : DX n s adj km S q u (i + 1) := by
  refine ⟨h.sn, h.sl, h.ql, h.qn, h.wait, h.old, h.ord, fun x hx j hj hc => ?_, h.pr, h.bd, h.z, h.le, h.h0, h.h1, h.so⟩
  by_cases c : x ≠ u ∨ j < i
  · exact h.rel x hx j hj c
  · have hxu : x = u := by apply Classical.byContradiction; intro e; exact c (.inl e)
    have hji : j = i := by
      rcases hc with a | a
      · exact absurd hxu a
      · have : ¬ j < i := fun e => c (.inr e)
        omega
    rw [hxu, hji]; omega

def upd (km : Nat → Nat) (v d : Nat) (x : Nat) : Nat := if x = v then d else km x
theorem upd_at (km : Nat → Nat) (v d : Nat) : upd km v d v = d := by simp [upd]
theorem upd_ne {km : Nat → Nat} {v d x : Nat} (h : x ≠ v) : upd km v d x = km x := by simp [upd, h]

/-- .. and is a shorter way. -/
theorem DX.relax {n s : Nat} {adj : Nat → List Lk} {km : Nat → Nat} {S : List Nat} {q q' : List (Nat × Nat)} {u i : Nat} (g : Gr n s adj) (h : DX n s adj km S q u i) (hu : u ∈ S) (hmx : ∀ v ∈ S, km v ≤ km u) (hb : V (km u) ≤ (S.length - 1) * U) (hi : i < (adj u).length)
    (hd : addF (km u) (lk adj u i).2.1 < km (lk adj u i).1) (hp : q'.Perm (((lk adj u i).1, addF (km u) (lk adj u i).2.1) :: q)) :
    DX n s adj (upd km (lk adj u i).1 (addF (km u) (lk adj u i).2.1)) S q' u (i + 1) ∧ (lk adj u i).1 ∉ S ∧ upd km (lk adj u i).1 (addF (km u) (lk adj u i).2.1) u = km u ∧ addF (km u) (lk adj u i).2.1 < infW := by
  obtain ⟨ul, uf⟩ := h.sl u hu
  obtain ⟨g1, g2, g3⟩ := g.l u ul _ (lk_mem hi)
  have hSl : S.length ≤ n := nodup_le n S h.sn (fun v hv => (h.sl v hv).1)
  have hSn := g.hn
  have hS0 : 0 < S.length := List.length_pos_of_mem hu
  have hVu : V (km u) ≤ 1000 * U := Nat.le_trans hb (Nat.mul_le_mul_right _ (by omega))
  have hgt := addF_gt hVu g2 uf
  have hbd := addF_bd hb g3 (by omega)
  rw [show S.length - 1 + 1 = S.length by omega] at hbd
  have hfin := fin_of hbd (by omega)
  generalize hdd : addF (km u) (lk adj u i).2.1 = d at *
  generalize hvv : (lk adj u i).1 = v at *
  have hvs : v ∉ S := fun a => by have := hmx v a; omega
  have hvu : u ≠ v := fun e => hvs (by rw [← e]; exact hu)
  have hsame : ∀ x ∈ S, upd km v d x = km x := fun x hx => upd_ne (fun e => hvs (by rw [← e]; exact hx))
  have hle : ∀ x, upd km v d x ≤ km x := fun x => by
    by_cases c : x = v
    · rw [c, upd_at]; omega
    · rw [upd_ne c]; exact Nat.le_refl _
  refine ⟨⟨h.sn, fun x hx => by rw [hsame x hx]; exact h.sl x hx, fun e he => ?_, ?_, fun x hx hs hf => ?_, fun x hx e he hev => ?_, fun x hx e he => ?_, fun x hx j hj hc => ?_, fun x hx hf hne => ?_, fun x hx hf => ?_, ?_, fun x hx => Nat.le_trans (hle x) (h.le x hx), fun e => by rw [e] at hS0; simp at hS0, h.h1, fun i j hij hj => by rw [hsame _ (by simp [show i < S.length by omega]), hsame _ (by simp [hj])]; exact h.so i j hij hj⟩, hvs, upd_ne hvu, hfin⟩
  · rcases List.mem_cons.1 (hp.mem_iff.1 he) with a | a
    · rw [a]; exact ⟨g1, hfin, by rw [upd_at]; exact Nat.le_refl _⟩
    · obtain ⟨a1, a2, a3⟩ := h.ql e a
      exact ⟨a1, a2, Nat.le_trans (hle _) a3⟩
  · rw [hp.nodup_iff, List.nodup_cons]
    refine ⟨fun a => ?_, h.qn⟩
    have := (h.ql _ a).2.2
    simp only at this
    omega
  · by_cases c : x = v
    · rw [c, upd_at]; exact hp.mem_iff.2 (by simp)
    · rw [upd_ne c] at hf ⊢
      exact hp.mem_iff.2 (List.mem_cons_of_mem _ (h.wait x hx hs hf))
  · rw [hsame x hx]
    rcases List.mem_cons.1 (hp.mem_iff.1 he) with a | a
    · rw [a] at hev; simp only at hev; rw [← hev] at hx; exact absurd hx hvs
    · exact h.old x hx e a hev
  · rw [hsame x hx]
    rcases List.mem_cons.1 (hp.mem_iff.1 he) with a | a
    · rw [a]; have := hmx x hx; simp only; omega
    · exact h.ord x hx e a
  · rw [hsame x hx]
    by_cases c : x ≠ u ∨ j < i
    · exact Nat.le_trans (hle _) (h.rel x hx j hj c)
    · have hxu : x = u := by apply Classical.byContradiction; intro e; exact c (.inl e)
      have hji : j = i := by
        rcases hc with a | a
        · exact absurd hxu a
        · have : ¬ j < i := fun e => c (.inr e)
          omega
      rw [hxu, hji, hvv, hdd, upd_at]; exact Nat.le_refl _
  · by_cases c : x = v
    · refine ⟨u, hu, i, hi, by rw [hvv, c], by rw [c, upd_at, upd_ne hvu, hdd], fun a => ?_⟩
      rw [c] at a; exact absurd a hvs
    · rw [upd_ne c] at hf ⊢
      obtain ⟨y, hy, j, hj, e1, e2, e3⟩ := h.pr x hx hf hne
      exact ⟨y, hy, j, hj, e1, by rw [hsame y hy]; exact e2, e3⟩
  · by_cases c : x = v
    · rw [c, upd_at]; exact hbd
    · rw [upd_ne c] at hf ⊢; exact h.bd x hx hf
  · by_cases c : s = v
    · have := h.z; rw [c] at this; omega
    · rw [upd_ne c]; exact h.z

/-- What the search answers. -/
structure DF (n s : Nat) (adj : Nat → List Lk) (km : Nat → Nat) (S : List Nat) : Prop where
  sn : S.Nodup
  mem : ∀ v, v < n → (v ∈ S ↔ km v < infW)
  sl : ∀ v ∈ S, v < n
  rel : ∀ x ∈ S, ∀ j, j < (adj x).length → km (lk adj x j).1 ≤ addF (km x) (lk adj x j).2.1
  pr : ∀ v ∈ S, v ≠ s → ∃ x ∈ S, ∃ j, j < (adj x).length ∧ (lk adj x j).1 = v ∧ km v = addF (km x) (lk adj x j).2.1 ∧ before S x v
  bd : ∀ v, v < n → km v < infW → V (km v) ≤ 256 * U
  z : km s = 0
  le : ∀ v, v < n → km v ≤ infW
  head : S.head? = some s
  so : ∀ i j, i ≤ j → j < S.length → km (S.getD i 0) ≤ km (S.getD j 0)
theorem DX.done {n s : Nat} {adj : Nat → List Lk} {km : Nat → Nat} {S : List Nat} {u : Nat} (g : Gr n s adj) (h : DX n s adj km S [] u (adj u).length) : DF n s adj km S := by
  have mem : ∀ v, v < n → (v ∈ S ↔ km v < infW) := fun v hv => ⟨fun a => (h.sl v a).2, fun a => by
    apply Classical.byContradiction
    intro b
    have := h.wait v hv b a
    simp at this⟩
  have hs : s ∈ S := (mem s g.hs).2 (by rw [h.z]; decide)
  have hSl : S.length ≤ n := nodup_le n S h.sn (fun v hv => (h.sl v hv).1)
  have hn := g.hn
  refine ⟨h.sn, mem, fun v hv => (h.sl v hv).1, fun x hx j hj => h.rel x hx j hj (by
    by_cases c : x = u
    · right; rw [← c]; exact hj
    · left; exact c), fun v hv hne => ?_, fun v hv hf => Nat.le_trans (h.bd v hv hf) (Nat.mul_le_mul_right _ (by omega)), h.z, h.le, h.h1 (fun e => by rw [e] at hs; simp at hs), h.so⟩
  obtain ⟨x, hx, j, hj, e1, e2, e3⟩ := h.pr v (h.sl v hv).1 (h.sl v hv).2 hne
  exact ⟨x, hx, j, hj, e1, e2, e3 hv⟩
end Go.Proofs.Qxb6628650a
