/-
  PathsTo (seat b6628650a): ranks and best links, plainly and in memory.
-/
import Derived.Test.Qxb6628650aSeaB
import Derived.Test.Qxb6628650aNB
namespace Go.Proofs.Qxb6628650a
open Go.RowKit
set_option linter.unusedVariables false

/-- A row of int64. -/
abbrev RZ (w : World) (B g n : Nat) (f : Nat → Int) : Prop := w.ownsRow B 3 1 (QV g n n) n ((List.range n).map fun i => .int .i64 (f i))
theorem RZ.lt {w : World} {B g n : Nat} {p : Nat → Int} (h : RZ w B g n p) : B ≤ g ∧ g < w.heap.size := World.ownsRow.lt h g rfl
theorem RZ.at_ {w : World} {B g n : Nat} {p : Nat → Int} (h : RZ w B g n p) (i : Nat) (hi : i < n) : w.cell? ⟨g, i, none⟩ = some (.int .i64 (p i)) := by
  rw [World.ownsRow.cellAt h i (by omega)]; simp [hi]
theorem RZ.fz {w : World} {B g n : Nat} {p : Nat → Int} (h : RZ w B g n p) (i : Nat) : w.frozen? ⟨g, i, none⟩ = false := World.ownsRow.frozenAt h i
theorem RZ.of_block {w w' : World} {B g n : Nat} {p : Nat → Int} (h : RZ w B g n p) (e : w'.heap[g]? = w.heap[g]?) : RZ w' B g n p := by
  refine ⟨h.1, ?_⟩
  rcases h.2 with ⟨a, _⟩ | ⟨g', cap', cur, a, b, c, d⟩
  · cases a
  · injection a with a1 _ a3
    injection a1 with a4
    injection a4 with a5 _ _
    subst a5
    exact .inr ⟨_, _, cur, by rw [a3], b, e.trans c, d⟩
theorem RZ.congr {w : World} {B g n : Nat} {p q : Nat → Int} (h : RZ w B g n p) (e : ∀ i, i < n → p i = q i) : RZ w B g n q := by
  have : ((List.range n).map fun i => Value.int .i64 (q i)) = (List.range n).map fun i => Value.int .i64 (p i) := List.map_congr_left fun i hi => by rw [e i (by simpa using hi)]
  unfold RZ
  rw [this]
  exact h
def updZ (f : Nat → Int) (v : Nat) (d : Int) (x : Nat) : Int := if x = v then d else f x
theorem RZ.set {w : World} {B g n : Nat} {p : Nat → Int} (h : RZ w B g n p) (j : Nat) (x : Int) : RZ (w.setCell ⟨g, j, none⟩ (.int .i64 x)) B g n (updZ p j x) := by
  have := (World.ownsRow.stored h j (.int .i64 x)).1
  have e : ((List.range n).map fun i => Value.int .i64 (updZ p j x i)) = ((List.range n).map fun i => Value.int .i64 (p i)).set j (.int .i64 x) := by
    apply List.ext_getElem?
    intro i
    rw [List.getElem?_set]
    by_cases c : j = i
    · subst c
      rw [if_pos rfl]
      by_cases d : j < n
      · simp [d, updZ]
      · simp [d]
    · rw [if_neg c]
      by_cases d : i < n
      · simp [d, updZ, Ne.symm c]
      · simp [d]
  unfold RZ
  rw [e]
  exact this
theorem RZ.made {w : World} {B g n : Nat} (h : w.ownsRow B 3 1 (.slice (some ⟨g, 0, none⟩) n n) n (madeCells #[Value.int .i64 0] n).toList) : RZ w B g n (fun _ => 0) := by
  have e : (madeCells #[Value.int .i64 0] n).toList = (List.range n).map fun i => Value.int .i64 0 := by
    rw [toList_madeCells_one]
    apply List.ext_getElem?
    intro i
    by_cases d : i < n
    · simp [d]
    · simp [d]
  unfold RZ
  rw [← e]
  exact h

/-! Ranks. -/
def rkK (S : List Nat) : Nat → Nat → Nat
  | 0, _ => 0
  | k + 1, v => if v = S.getD k 0 then k else rkK S k v
theorem rkK_at {S : List Nat} (hd : S.Nodup) : ∀ k, k ≤ S.length → ∀ i, i < k → rkK S k (S.getD i 0) = i
  | 0, _, i, hi => by omega
  | k + 1, hk, i, hi => by
    unfold rkK
    by_cases c : i = k
    · subst c; rw [if_pos rfl]
    · have hne : S.getD i 0 ≠ S.getD k 0 := by
        intro e
        have h1 : i < S.length := by omega
        have h2 : k < S.length := by omega
        simp only [List.getD_eq_getElem?_getD, List.getElem?_eq_getElem h1, List.getElem?_eq_getElem h2, Option.getD_some] at e
        exact (List.pairwise_iff_getElem.1 hd) i k h1 h2 (by omega) e
      rw [if_neg hne]
      exact rkK_at hd k (by omega) i (by omega)
theorem rkK_lt (S : List Nat) (v : Nat) : ∀ k, rkK S k v ≤ k
  | 0 => by simp [rkK]
  | k + 1 => by have := rkK_lt S v k; unfold rkK; split <;> omega
def rk (S : List Nat) (v : Nat) : Nat := rkK S S.length v
theorem rk_before {S : List Nat} (hd : S.Nodup) {u v : Nat} (h : before S u v) : rk S u < rk S v := by
  obtain ⟨i, j, a, b, c⟩ := h
  have h1 := (List.getElem?_eq_some_iff.1 a).1
  have h2 := (List.getElem?_eq_some_iff.1 b).1
  have e1 : S.getD i 0 = u := by simp [a]
  have e2 : S.getD j 0 = v := by simp [b]
  have r1 := rkK_at hd S.length (Nat.le_refl _) i h1
  have r2 := rkK_at hd S.length (Nat.le_refl _) j h2
  rw [e1] at r1
  rw [e2] at r2
  unfold rk
  omega

/-! The best link of v. -/
def cand (adj : Nat → List Lk) (km : Nat → Nat) (S : List Nat) (v j : Nat) : Bool := decide (rk S (lk adj v j).1 < rk S v) && decide (addF (km (lk adj v j).1) (lk adj v j).2.1 = km v)
def bst (adj : Nat → List Lk) (km : Nat → Nat) (S : List Nat) (lab : Nat → ByteArray) (v : Nat) : Nat → Option Nat
  | 0 => none
  | k + 1 => if cand adj km S v k then
      (match bst adj km S lab v k with
       | none => some k
       | some b => if nb lab (lk adj v k).1 (lk adj v b).1 then some k else some b)
    else bst adj km S lab v k
theorem bst_cand {adj : Nat → List Lk} {km : Nat → Nat} {S : List Nat} {lab : Nat → ByteArray} {v : Nat} : ∀ k j, bst adj km S lab v k = some j → j < k ∧ cand adj km S v j = true
  | 0, j, h => by simp [bst] at h
  | k + 1, j, h => by
    unfold bst at h
    split at h
    · rename_i hc
      split at h
      · cases h; exact ⟨by omega, hc⟩
      · rename_i b hb
        have ih := bst_cand k b hb
        split at h
        · cases h; exact ⟨by omega, hc⟩
        · cases h; exact ⟨by omega, ih.2⟩
    · have ih := bst_cand k j h
      exact ⟨by omega, ih.2⟩
theorem bst_some {adj : Nat → List Lk} {km : Nat → Nat} {S : List Nat} {lab : Nat → ByteArray} {v : Nat} : ∀ k j, j < k → cand adj km S v j = true → bst adj km S lab v k ≠ none
  | 0, j, h, _ => by omega
  | k + 1, j, h, hc => by
    unfold bst
    split
    · split
      · simp
      · split <;> simp
    · rename_i hn
      have : j ≠ k := fun e => by rw [e] at hc; exact hn hc
      exact bst_some k j (by omega) hc
/-- The arc that leaves v; -1 where there is none. -/
def nxt (adj : Nat → List Lk) (km : Nat → Nat) (S : List Nat) (lab : Nat → ByteArray) (v : Nat) : Int :=
  match bst adj km S lab v (adj v).length with
  | none => -1
  | some j => ((lk adj v j).2.2 : Int)

/-- Each link lies at both ends. -/
def Sym (n : Nat) (adj : Nat → List Lk) : Prop := ∀ u, u < n → ∀ j, j < (adj u).length → ∃ i, i < (adj (lk adj u j).1).length ∧ (lk adj (lk adj u j).1 i).1 = u ∧ (lk adj (lk adj u j).1 i).2.1 = (lk adj u j).2.1
theorem best_is {n s : Nat} {adj : Nat → List Lk} {km : Nat → Nat} {S : List Nat} {lab : Nat → ByteArray} (h : DF n s adj km S) (hy : Sym n adj) {v : Nat} (hv : v ∈ S) (hs : v ≠ s) : ∃ j, bst adj km S lab v (adj v).length = some j ∧ j < (adj v).length ∧ cand adj km S v j = true := by
  obtain ⟨x, hx, j, hj, e1, e2, hb⟩ := h.pr v hv hs
  obtain ⟨i, hi, e3, e4⟩ := hy x (h.sl x hx) j hj
  rw [e1] at hi e3 e4
  have hc : cand adj km S v i = true := by
    unfold cand
    rw [Bool.and_eq_true, decide_eq_true_iff, decide_eq_true_iff, e3, e4]
    exact ⟨rk_before h.sn hb, e2.symm⟩
  have := bst_some (lab := lab) (adj v).length i hi hc
  obtain ⟨b, hb'⟩ := Option.ne_none_iff_exists'.1 this
  exact ⟨b, hb', bst_cand _ b hb'⟩

/-- A neighbour of a settled node is settled. -/
theorem DF.near {n s : Nat} {adj : Nat → List Lk} {km : Nat → Nat} {S : List Nat} (g : Gr n s adj) (h : DF n s adj km S) {v j : Nat} (hv : v ∈ S) (hj : j < (adj v).length) : km (lk adj v j).1 < infW := by
  have hl := h.sl v hv
  have hf := (h.mem v hl).1 hv
  obtain ⟨g1, g2, g3⟩ := g.l v hl _ (lk_mem hj)
  have a := h.rel v hv j hj
  have b := addF_bd (h.bd v hl hf) g3 (by omega)
  have c := fin_of b (by omega)
  omega

/-- The memory of PathsTo. -/
structure PT (w0 w : World) (B P gk nx rb n s : Nat) (va vs : Value) (km : Nat → Nat) (S : List Nat) (nf rf : Nat → Int) : Prop where
  p0 : w.cell? ⟨P, 0, none⟩ = some (.int .i64 (s : Int))
  p1 : w.cell? ⟨P, 1, none⟩ = some (QV gk n n)
  p2 : w.cell? ⟨P, 2, none⟩ = some (QV nx n n)
  p3 : w.cell? ⟨P, 3, none⟩ = some va
  k : RF w B gk n km
  s : RN w B vs S
  x : RZ w B nx n nf
  r : RZ w B rb n rf
  xP : P ≠ nx
  rP : P ≠ rb
  xk : gk ≠ nx
  rk : gk ≠ rb
  xr : rb ≠ nx
  vx : vs.ownBlock ≠ some nx
  vr : vs.ownBlock ≠ some rb
  b : Below B w0 w
theorem PT.lP {w0 w : World} {B P gk nx rb n s : Nat} {va vs : Value} {km : Nat → Nat} {S : List Nat} {nf rf : Nat → Int} (h : PT w0 w B P gk nx rb n s va vs km S nf rf) : P < w.heap.size := World.block_lt_of_cell? _ _ h.p0
theorem PT.later {w0 w w' : World} {B P gk nx rb n s : Nat} {va vs : Value} {km : Nat → Nat} {S : List Nat} {nf rf : Nat → Int} (h : PT w0 w B P gk nx rb n s va vs km S nf rf) (hb : Below w.heap.size w w') (hB : B ≤ w.heap.size) : PT w0 w' B P gk nx rb n s va vs km S nf rf :=
  ⟨cell_later hb h.p0, cell_later hb h.p1, cell_later hb h.p2, cell_later hb h.p3, h.k.of_block (hb.block _ h.k.lt.2), h.s.keep (fun k hk => hb.block k (World.ownsRow.lt h.s k hk).2), h.x.of_block (hb.block _ h.x.lt.2), h.r.of_block (hb.block _ h.r.lt.2), h.xP, h.rP, h.xk, h.rk, h.xr, h.vx, h.vr, h.b.trans (hb.mono hB)⟩
theorem PT.setX {w0 w : World} {B P gk nx rb n s : Nat} {va vs : Value} {km : Nat → Nat} {S : List Nat} {nf rf : Nat → Int} (h : PT w0 w B P gk nx rb n s va vs km S nf rf) (j : Nat) (z : Int) : PT w0 (w.setCell ⟨nx, j, none⟩ (.int .i64 z)) B P gk nx rb n s va vs km S (updZ nf j z) rf := by
  have o : ∀ k, k ≠ nx → (w.setCell ⟨nx, j, none⟩ (.int .i64 z)).heap[k]? = w.heap[k]? := fun k hk => heap_setCell_other w ⟨nx, j, none⟩ k _ hk
  have oP := o P h.xP
  exact ⟨(World.cell?_of_block oP).trans h.p0, (World.cell?_of_block oP).trans h.p1, (World.cell?_of_block oP).trans h.p2, (World.cell?_of_block oP).trans h.p3, h.k.of_block (o _ h.xk), h.s.keep (fun k hk => o k (fun e => h.vx (by rw [hk, e]))), h.x.set j z, h.r.of_block (o _ h.xr), h.xP, h.rP, h.xk, h.rk, h.xr, h.vx, h.vr, h.b.setCell h.x.lt.1 _⟩
theorem PT.setR {w0 w : World} {B P gk nx rb n s : Nat} {va vs : Value} {km : Nat → Nat} {S : List Nat} {nf rf : Nat → Int} (h : PT w0 w B P gk nx rb n s va vs km S nf rf) (j : Nat) (z : Int) : PT w0 (w.setCell ⟨rb, j, none⟩ (.int .i64 z)) B P gk nx rb n s va vs km S nf (updZ rf j z) := by
  have o : ∀ k, k ≠ rb → (w.setCell ⟨rb, j, none⟩ (.int .i64 z)).heap[k]? = w.heap[k]? := fun k hk => heap_setCell_other w ⟨rb, j, none⟩ k _ hk
  have oP := o P h.rP
  exact ⟨(World.cell?_of_block oP).trans h.p0, (World.cell?_of_block oP).trans h.p1, (World.cell?_of_block oP).trans h.p2, (World.cell?_of_block oP).trans h.p3, h.k.of_block (o _ h.rk), h.s.keep (fun k hk => o k (fun e => h.vr (by rw [hk, e]))), h.x.of_block (o _ (Ne.symm h.xr)), h.r.set j z, h.xP, h.rP, h.xk, h.rk, h.xr, h.vx, h.vr, h.b.setCell h.r.lt.1 _⟩
theorem PT.congr {w0 w : World} {B P gk nx rb n s : Nat} {va vs : Value} {km : Nat → Nat} {S : List Nat} {nf rf nf' rf' : Nat → Int} (h : PT w0 w B P gk nx rb n s va vs km S nf rf) (e1 : ∀ i, i < n → nf i = nf' i) (e2 : ∀ i, i < n → rf i = rf' i) : PT w0 w B P gk nx rb n s va vs km S nf' rf' :=
  ⟨h.p0, h.p1, h.p2, h.p3, h.k, h.s, h.x.congr e1, h.r.congr e2, h.xP, h.rP, h.xk, h.rk, h.xr, h.vx, h.vr, h.b⟩

theorem RN.at_ {w : World} {B : Nat} {v : Value} {S : List Nat} (h : RN w B v S) (i : Nat) (hi : i < S.length) : ∃ g cap, v = QV g S.length cap ∧ S.length ≤ cap ∧ ∀ j, j < S.length → w.cell? ⟨g, j, none⟩ = some (.int .i64 ((S.getD j 0 : Nat) : Int)) := by
  rcases h.2 with ⟨_, h0⟩ | ⟨g, cap, cur, e, _, _, hc, _⟩
  · omega
  · refine ⟨g, cap, e, hc, fun j hj => ?_⟩
    rw [e] at h
    rw [World.ownsRow.cellAt h j (by omega)]
    simp [hj]
end Go.Proofs.Qxb6628650a
