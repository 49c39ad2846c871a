/-
  zzBuild's memory (seat b6628650a): what an append of a link leaves.
-/
import Derived.Test.Qxb6628650aBld
namespace Go.Proofs.Qxb6628650a
open Go.RowKit
set_option linter.unusedVariables false

theorem qv_block {g n c k : Nat} (h : (Value.slice (some ⟨g, 0, none⟩) n c).ownBlock = some k) : g = k := by simpa [Value.ownBlock] using h
theorem own_keep {w w' : World} {B : Nat} {e : TypeId} {size n : Nat} {v : Value} {xs : List Value} (h : w.ownsRow B e size v n xs) (hk : ∀ k, v.ownBlock = some k → w'.heap[k]? = w.heap[k]?) : w'.ownsRow B e size v n xs := by
  refine ⟨h.1, ?_⟩
  rcases h.2 with a | ⟨g, cap, cur, a, b, c, d⟩
  · exact .inl a
  · exact .inr ⟨g, cap, cur, a, b, (hk g (by rw [a]; rfl)).trans c, d⟩
theorem Lks.own {w : World} {B gL n : Nat} {vv : Nat → Value} {adj : Nat → List Lk} (h : Lks w B gL n vv adj) (v : Nat) (hv : v < n) (k : Nat) (hk : (vv v).ownBlock = some k) : B ≤ k ∧ k < w.heap.size := World.ownsRow.lt (h.r v hv) k hk
theorem Lks.later {w w' : World} {B gL n : Nat} {vv : Nat → Value} {adj : Nat → List Lk} (h : Lks w B gL n vv adj) (hb : Below w.heap.size w w') : Lks w' B gL n vv adj :=
  ⟨own_keep h.o (fun k hk => hb.block k (World.ownsRow.lt h.o k hk).2), fun v hv => own_keep (h.r v hv) (fun k hk => hb.block k (h.own v hv k hk).2), h.ne, h.ap⟩
theorem Lks.off {w : World} {B gL n : Nat} {vv : Nat → Value} {adj : Nat → List Lk} (h : Lks w B gL n vv adj) (g j : Nat) (u : Value) (h1 : g ≠ gL) (h2 : ∀ v, v < n → (vv v).ownBlock ≠ some g) : Lks (w.setCell ⟨g, j, none⟩ u) B gL n vv adj :=
  ⟨own_keep h.o (fun k hk => heap_setCell_other w ⟨g, j, none⟩ k u (fun e => h1 (e.symm.trans (qv_block hk).symm))), fun v hv => own_keep (h.r v hv) (fun k hk => heap_setCell_other w ⟨g, j, none⟩ k u (fun e => h2 v hv (by rw [hk, e]))), h.ne, h.ap⟩

/-- A link is appended to the row of v, and the slice stored. -/
theorem Lks.app {w X w1 : World} {B gL n v ga capa : Nat} {vv : Nat → Value} {adj : Nat → List Lk} {l : Lk} (h : Lks w B gL n vv adj) (hv : v < n) (hX : Below w.heap.size w X)
    (hown : w1.ownsRow B 46 3 (.slice (some ⟨ga, 0, none⟩) ((adj v).length + 1) capa) ((adj v).length + 1) (flat3 (adj v) ++ [.int .i64 (l.1 : Int), .float .f64 l.2.1, .int .i64 (l.2.2 : Int)]))
    (hg : X.grownBy w1 (vv v).ownBlock) (hat : (vv v).ownBlock = some ga ∨ ga = X.heap.size) :
    w1.cell? ⟨gL, v, none⟩ = some (vv v) ∧ w1.frozen? ⟨gL, v, none⟩ = false ∧
    Lks (w1.setCell ⟨gL, v, none⟩ (.slice (some ⟨ga, 0, none⟩) ((adj v).length + 1) capa)) B gL n (updV vv v (.slice (some ⟨ga, 0, none⟩) ((adj v).length + 1) capa)) (updV adj v (adj v ++ [l])) ∧
    (∀ k, k < w.heap.size → k ≠ gL → (vv v).ownBlock ≠ some k → (w1.setCell ⟨gL, v, none⟩ (.slice (some ⟨ga, 0, none⟩) ((adj v).length + 1) capa)).heap[k]? = w.heap[k]?) ∧
    (∀ k, k < w.heap.size → (vv v).ownBlock ≠ some k → k ≠ ga) := by
  have hXs := hX.size
  have lt := h.lt
  have key : ∀ k, k < w.heap.size → (vv v).ownBlock ≠ some k → w1.heap[k]? = w.heap[k]? := fun k hk hn => (hg.block k (by omega) (fun e => hn e.symm)).trans (hX.block k hk)
  have hga : ∀ k, k < w.heap.size → (vv v).ownBlock ≠ some k → k ≠ ga := fun k hk hn e => by
    rcases hat with l | l
    · exact hn (by rw [l, e])
    · omega
  have eL := key gL lt.2 (h.ne v hv)
  have oL : w1.ownsRow B 44 1 (QV gL n n) n ((List.range n).map vv) := own_keep h.o (fun k hk => by
    have : gL = k := by simpa [Value.ownBlock] using hk
    rw [← this]; exact eL)
  have oset := (World.ownsRow.stored oL v (.slice (some ⟨ga, 0, none⟩) ((adj v).length + 1) capa)).1
  have emap : ((List.range n).map vv).set v (.slice (some ⟨ga, 0, none⟩) ((adj v).length + 1) capa) = (List.range n).map (updV vv v (.slice (some ⟨ga, 0, none⟩) ((adj v).length + 1) capa)) := by
    apply List.ext_getElem?
    intro i
    rw [List.getElem?_set]
    by_cases c : v = i
    · subst c
      rw [if_pos rfl]
      simp [hv, updV]
    · rw [if_neg c]
      by_cases d : i < n
      · simp [d, updV, Ne.symm c]
      · simp [d]
  rw [emap] at oset
  have sother : ∀ k, k ≠ gL → (w1.setCell ⟨gL, v, none⟩ (.slice (some ⟨ga, 0, none⟩) ((adj v).length + 1) capa)).heap[k]? = w1.heap[k]? := fun k hk => heap_setCell_other w1 ⟨gL, v, none⟩ k _ hk
  have gaL : ga ≠ gL := fun e => hga gL lt.2 (h.ne v hv) e.symm
  refine ⟨(World.cell?_of_block eL).trans (h.at_ v hv), World.ownsRow.frozenAt oL v, ⟨oset, fun u hu => ?_, fun u hu => ?_, fun a b ha hb hab k hk => ?_⟩, fun k hk h1 h2 => (sother k h1).trans (key k hk h2), hga⟩
  · by_cases c : u = v
    · subst c
      rw [updV_at, updV_at]
      have e : flat3 (adj u ++ [l]) = flat3 (adj u) ++ [.int .i64 (l.1 : Int), .float .f64 l.2.1, .int .i64 (l.2.2 : Int)] := by rw [flat3_app]; rfl
      rw [e, List.length_append]
      exact own_keep hown (fun k hk => sother k (fun e2 => gaL ((qv_block hk).trans e2)))
    · rw [updV_ne c, updV_ne c]
      refine own_keep (h.r u hu) (fun k hk => (sother k (fun e => h.ne u hu (by rw [hk, e]))).trans (key k (h.own u hu k hk).2 (fun e => h.ap u v hu hv c k hk e)))
  · by_cases c : u = v
    · rw [c, updV_at]; intro e
      have : ga = gL := by simpa [Value.ownBlock] using e
      exact gaL this
    · rw [updV_ne c]; exact h.ne u hu
  · by_cases ca : a = v
    · rw [ca, updV_at] at hk
      have hgk : ga = k := by simpa [Value.ownBlock] using hk
      have cb : b ≠ v := fun e => hab (by rw [ca, e])
      rw [updV_ne cb]
      intro e
      exact hga k (h.own b hb k e).2 (fun e2 => h.ap b v hb hv cb k e e2) hgk.symm
    · rw [updV_ne ca] at hk
      by_cases cb : b = v
      · rw [cb, updV_at]; intro e
        have hgk : ga = k := by simpa [Value.ownBlock] using e
        exact hga k (h.own a ha k hk).2 (fun e2 => h.ap a v ha hv ca k hk e2) hgk.symm
      · rw [updV_ne cb]; exact h.ap a b ha hb hab k hk
end Go.Proofs.Qxb6628650a
