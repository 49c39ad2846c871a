/-
  keptModel (seat b6628726a): its rows in memory, and the plain steps.
-/
import Derived.Test.Qxb6628726aPlainE
import Derived.Test.Qxb6628726aSec
namespace Go.Proofs.Qxb6628726a
open Go.RowKit
set_option linter.unusedVariables false

theorem info2 : (Try.prog.info? 2).map (fun i => (i.zero, i.size, i.bytes)) = some (some (.int .i64 0), 1, 8) := by kernel_rfl
theorem info4 : (Try.prog.info? 4).map (fun i => (i.zero, i.size, i.bytes)) = some (some (.bool false), 1, 1) := by kernel_rfl

abbrev I64 (l : List Int) : List Value := l.map (Value.int .i64)
/-- A row of int64 at the head of block g. -/
abbrev RI (w : World) (B g cap : Nat) (l : List Int) : Prop := w.ownsRow B 2 1 (.slice (some ⟨g, 0, none⟩) l.length cap) l.length (I64 l)

theorem RI.lt {w : World} {B g cap : Nat} {l : List Int} (h : RI w B g cap l) : B ≤ g ∧ g < w.heap.size := World.ownsRow.lt h g rfl
theorem RI.at_ {w : World} {B g cap : Nat} {l : List Int} (h : RI w B g cap l) (i : Nat) (hi : i < l.length) : w.cell? ⟨g, i, none⟩ = some (.int .i64 (l.getD i 0)) := by
  rw [World.ownsRow.cellAt h i (by omega)]; simp [hi]
theorem RI.fz {w : World} {B g cap : Nat} {l : List Int} (h : RI w B g cap l) (i : Nat) : w.frozen? ⟨g, i, none⟩ = false := World.ownsRow.frozenAt h i
theorem RI.of_block {w w' : World} {B g cap : Nat} {l : List Int} (h : RI w B g cap l) (e : w'.heap[g]? = w.heap[g]?) : RI w' B g cap l := by
  refine ⟨h.1, ?_⟩
  rcases h.2 with ⟨a, _⟩ | ⟨g', cap', cur, a, b, c, d⟩
  · cases a
  · injection a with a1 _ a3
    injection a1 with a4
    injection a4 with a5 _ _
    subst a5
    exact .inr ⟨_, _, cur, by rw [a3], b, e.trans c, d⟩
theorem RI.set {w : World} {B g cap : Nat} {l : List Int} (h : RI w B g cap l) (i : Nat) (x : Int) : RI (w.setCell ⟨g, i, none⟩ (.int .i64 x)) B g cap (l.set i x) := by
  have := (World.ownsRow.stored h i (.int .i64 x)).1
  have e : I64 (l.set i x) = (I64 l).set i (.int .i64 x) := by simp [List.map_set]
  unfold RI
  rw [e, List.length_set]
  exact this
theorem RI.snoc {w : World} {B g cap : Nat} {l : List Int} {x : Int} (h : w.ownsRow B 2 1 (.slice (some ⟨g, 0, none⟩) (l.length + 1) cap) (l.length + 1) (I64 l ++ [.int .i64 x])) : RI w B g cap (l ++ [x]) := by
  unfold RI
  rw [show I64 (l ++ [x]) = I64 l ++ [.int .i64 x] by simp, List.length_append]
  exact h
theorem RI.rd {w : World} {B g cap : Nat} {l : List Int} (h : RI w B g cap l) (n : Nat) (hn : n = l.length) (f : Nat → Int) (hf : ∀ i, i < n → l.getD i 0 = f i) : Rd w (.slice (some ⟨g, 0, none⟩) l.length cap) n 1 (fun i => .int .i64 (f i)) := by
  subst hn
  refine ⟨_, cap, rfl, fun _ => ⟨g, 0, rfl, h.lt.2, fun i hi => ?_⟩⟩
  rw [Nat.zero_add, h.at_ i (by omega), hf i (by omega)]

/-- The three rows of the model. -/
structure R3 (w : World) (B gi gu gc ci cu cc : Nat) (li lu lc : List Int) : Prop where
  i : RI w B gi ci li
  u : RI w B gu cu lu
  c : RI w B gc cc lc
  iu : gi ≠ gu
  ic : gi ≠ gc
  uc : gu ≠ gc
theorem R3.swap {w : World} {B gi gu gc ci cu cc : Nat} {li lu lc : List Int} (h : R3 w B gi gu gc ci cu cc li lu lc) : R3 w B gu gi gc cu ci cc lu li lc := ⟨h.u, h.i, h.c, Ne.symm h.iu, h.uc, h.ic⟩
theorem R3.rot {w : World} {B gi gu gc ci cu cc : Nat} {li lu lc : List Int} (h : R3 w B gi gu gc ci cu cc li lu lc) : R3 w B gc gu gi cc cu ci lc lu li := ⟨h.c, h.u, h.i, Ne.symm h.uc, Ne.symm h.ic, Ne.symm h.iu⟩
theorem R3.keep {w w' : World} {B gi gu gc ci cu cc : Nat} {li lu lc : List Int} (h : R3 w B gi gu gc ci cu cc li lu lc) (e : ∀ k, k = gi ∨ k = gu ∨ k = gc → w'.heap[k]? = w.heap[k]?) : R3 w' B gi gu gc ci cu cc li lu lc :=
  ⟨h.i.of_block (e _ (.inl rfl)), h.u.of_block (e _ (.inr (.inl rfl))), h.c.of_block (e _ (.inr (.inr rfl))), h.iu, h.ic, h.uc⟩
theorem R3.lt {w : World} {B gi gu gc ci cu cc : Nat} {li lu lc : List Int} (h : R3 w B gi gu gc ci cu cc li lu lc) (k : Nat) (hk : k = gi ∨ k = gu ∨ k = gc) : B ≤ k ∧ k < w.heap.size := by
  rcases hk with rfl | rfl | rfl
  · exact h.i.lt
  · exact h.u.lt
  · exact h.c.lt
theorem R3.below {w w' : World} {B gi gu gc ci cu cc : Nat} {li lu lc : List Int} (h : R3 w B gi gu gc ci cu cc li lu lc) (hb : Below w.heap.size w w') : R3 w' B gi gu gc ci cu cc li lu lc :=
  h.keep fun k hk => hb.block k (h.lt k hk).2
theorem R3.setI {w : World} {B gi gu gc ci cu cc : Nat} {li lu lc : List Int} (h : R3 w B gi gu gc ci cu cc li lu lc) (j : Nat) (x : Int) : R3 (w.setCell ⟨gi, j, none⟩ (.int .i64 x)) B gi gu gc ci cu cc (li.set j x) lu lc :=
  ⟨h.i.set j x, h.u.of_block (heap_setCell_other w ⟨gi, j, none⟩ gu _ (Ne.symm h.iu)), h.c.of_block (heap_setCell_other w ⟨gi, j, none⟩ gc _ (Ne.symm h.ic)), h.iu, h.ic, h.uc⟩
theorem R3.setU {w : World} {B gi gu gc ci cu cc : Nat} {li lu lc : List Int} (h : R3 w B gi gu gc ci cu cc li lu lc) (j : Nat) (x : Int) : R3 (w.setCell ⟨gu, j, none⟩ (.int .i64 x)) B gi gu gc ci cu cc li (lu.set j x) lc := (h.swap.setI j x).swap
theorem R3.setC {w : World} {B gi gu gc ci cu cc : Nat} {li lu lc : List Int} (h : R3 w B gi gu gc ci cu cc li lu lc) (j : Nat) (x : Int) : R3 (w.setCell ⟨gc, j, none⟩ (.int .i64 x)) B gi gu gc ci cu cc li lu (lc.set j x) := (h.rot.setI j x).rot

theorem R3.appI {w w1 : World} {B gi gu gc ci cu cc g cap : Nat} {li lu lc : List Int} {x : Int} {o : Obj} (h : R3 w B gi gu gc ci cu cc li lu lc) (hown : w1.ownsRow B 2 1 (.slice (some ⟨g, 0, none⟩) (li.length + 1) cap) (li.length + 1) (I64 li ++ [.int .i64 x]))
    (hg : (w.alloc o).grownBy w1 (some gi)) (hat : some gi = some g ∨ g = w.heap.size + 1) : R3 w1 B g gu gc cap cu cc (li ++ [x]) lu lc := by
  have key : ∀ k, k < w.heap.size → k ≠ gi → w1.heap[k]? = w.heap[k]? := by
    intro k hk hne
    rw [hg.block k (by simp; omega) (by simpa using hne)]
    exact heap_alloc_old w o hk
  have a := h.u.lt
  have b := h.c.lt
  refine ⟨RI.snoc hown, h.u.of_block (key gu a.2 (Ne.symm h.iu)), h.c.of_block (key gc b.2 (Ne.symm h.ic)), ?_, ?_, h.uc⟩
  · rcases hat with e | e
    · have : gi = g := by simpa using e
      rw [← this]; exact h.iu
    · omega
  · rcases hat with e | e
    · have : gi = g := by simpa using e
      rw [← this]; exact h.ic
    · omega
theorem R3.appU {w w1 : World} {B gi gu gc ci cu cc g cap : Nat} {li lu lc : List Int} {x : Int} {o : Obj} (h : R3 w B gi gu gc ci cu cc li lu lc) (hown : w1.ownsRow B 2 1 (.slice (some ⟨g, 0, none⟩) (lu.length + 1) cap) (lu.length + 1) (I64 lu ++ [.int .i64 x]))
    (hg : (w.alloc o).grownBy w1 (some gu)) (hat : some gu = some g ∨ g = w.heap.size + 1) : R3 w1 B gi g gc ci cap cc li (lu ++ [x]) lc := (h.swap.appI hown hg hat).swap
theorem R3.appC {w w1 : World} {B gi gu gc ci cu cc g cap : Nat} {li lu lc : List Int} {x : Int} {o : Obj} (h : R3 w B gi gu gc ci cu cc li lu lc) (hown : w1.ownsRow B 2 1 (.slice (some ⟨g, 0, none⟩) (lc.length + 1) cap) (lc.length + 1) (I64 lc ++ [.int .i64 x]))
    (hg : (w.alloc o).grownBy w1 (some gc)) (hat : some gc = some g ∨ g = w.heap.size + 1) : R3 w1 B gi gu g ci cu cap li lu (lc ++ [x]) := (h.rot.appI hown hg hat).rot
theorem below_app {w w1 : World} {B g : Nat} {o : Obj} (hg : (w.alloc o).grownBy w1 (some g)) (hB : B ≤ g) (hw : B ≤ w.heap.size) : Below B w w1 := by
  have e : Below B w (w.alloc o) := (Below.refl _ _).alloc hw _
  refine e.trans ⟨hg.os, hg.tape, hg.output, hg.size, fun k hk => hg.block k (by simp; omega) (by simp; omega)⟩

/-! The plain steps. -/
def kI (sr : List (Int × Int)) (k : Nat) : List Int := (mg Prod.snd sr k).map Prod.fst
def kU (sr : List (Int × Int)) (k : Nat) : List Int := (mg Prod.snd sr k).map Prod.snd
def kC (sr : List (Int × Int)) (k : Nat) : List Int := (mg (fun _ => 1) sr k).map Prod.snd
theorem lastAt_map (l : List (Int × Int)) (h : 0 < l.length) : (lastAt l).1 = (l.map Prod.fst).getD (l.length - 1) 0 ∧ (lastAt l).2 = (l.map Prod.snd).getD (l.length - 1) 0 := by
  have : l.length - 1 < l.length := by omega
  unfold lastAt
  simp [this]
theorem sameAt_fst {M N : List (Int × Int)} (h : M.map Prod.fst = N.map Prod.fst) (a : Int) : sameAt M a = sameAt N a := by
  have hl : M.length = N.length := by have := congrArg List.length h; simpa using this
  unfold sameAt
  by_cases c : 0 < M.length
  · rw [(lastAt_map M c).1, (lastAt_map N (by omega)).1, h, hl]
  · rw [decide_eq_false c, decide_eq_false (p := 0 < N.length) (by omega)]; rfl
theorem map_fst_set (l : List (Int × Int)) (x : Int) : (l.set (l.length - 1) ((lastAt l).1, x)).map Prod.fst = l.map Prod.fst := by
  apply List.ext_getElem?
  intro i
  simp only [List.getElem?_map, List.getElem?_set]
  by_cases c : l.length - 1 = i
  · subst c
    rw [if_pos rfl]
    by_cases d : l.length - 1 < l.length
    · simp [d, lastAt]
    · have : l = [] := List.eq_nil_of_length_eq_zero (by omega)
      subst this; simp
  · rw [if_neg c]
theorem tkAdd_fst {M N : List (Int × Int)} (h : M.map Prod.fst = N.map Prod.fst) (a u v : Int) : (tkAdd M a u).map Prod.fst = (tkAdd N a v).map Prod.fst := by
  unfold tkAdd
  rw [sameAt_fst h a]
  split
  · rw [map_fst_set, map_fst_set, h]
  · simp [h]
theorem mg_fst (f g : Int × Int → Int) (sr : List (Int × Int)) : ∀ k, (mg f sr k).map Prod.fst = (mg g sr k).map Prod.fst
  | 0 => rfl
  | k + 1 => tkAdd_fst (mg_fst f g sr k) _ _ _
theorem mg_len (f g : Int × Int → Int) (sr : List (Int × Int)) (k : Nat) : (mg f sr k).length = (mg g sr k).length := by
  have := congrArg List.length (mg_fst f g sr k); simpa using this
theorem mg_le (f : Int × Int → Int) (sr : List (Int × Int)) : ∀ k, (mg f sr k).length ≤ k
  | 0 => by simp [mg]
  | k + 1 => by have := mg_le f sr k; have := tkAdd_len (mg f sr k) (sr.getD k (0, 0)).1 (f (sr.getD k (0, 0))); rw [mg]; omega
theorem kU_len (sr : List (Int × Int)) (k : Nat) : (kU sr k).length = (kI sr k).length := by simp [kU, kI]
theorem kC_len (sr : List (Int × Int)) (k : Nat) : (kC sr k).length = (kI sr k).length := by simp [kC, kI]; exact mg_len _ _ _ _
theorem kI_le (sr : List (Int × Int)) (k : Nat) : (kI sr k).length ≤ k := by simp [kI]; exact mg_le _ _ _
theorem k_same (sr : List (Int × Int)) (k : Nat) (h : 0 < (kI sr k).length) (e : (kI sr k).getD ((kI sr k).length - 1) 0 = (sr.getD k (0, 0)).1) :
    kI sr (k + 1) = kI sr k ∧ kU sr (k + 1) = (kU sr k).set ((kI sr k).length - 1) (wrap64 ((kU sr k).getD ((kI sr k).length - 1) 0 + (sr.getD k (0, 0)).2)) ∧ kC sr (k + 1) = (kC sr k).set ((kI sr k).length - 1) (wrap64 ((kC sr k).getD ((kI sr k).length - 1) 0 + 1)) := by
  have hl : (kI sr k).length = (mg Prod.snd sr k).length := by simp [kI]
  have hl2 := mg_len (fun _ => 1) Prod.snd sr k
  have hs : sameAt (mg Prod.snd sr k) (sr.getD k (0, 0)).1 = true := by
    simp only [sameAt, Bool.and_eq_true, decide_eq_true_iff]
    exact ⟨by omega, by rw [(lastAt_map _ (by omega)).1, ← e, hl]; rfl⟩
  have hs2 : sameAt (mg (fun _ => 1) sr k) (sr.getD k (0, 0)).1 = true := by rw [sameAt_fst (mg_fst _ Prod.snd sr k)]; exact hs
  have a1 := lastAt_map (mg Prod.snd sr k) (by omega)
  have a2 := lastAt_map (mg (fun _ => 1) sr k) (by omega)
  refine ⟨?_, ?_, ?_⟩
  · unfold kI; rw [mg, tkAdd, if_pos hs, map_fst_set]
  · unfold kU; rw [hl, mg, tkAdd, if_pos hs, List.map_set, ← a1.2]
  · unfold kC; rw [hl, mg, tkAdd, if_pos hs2, List.map_set, ← hl2, ← a2.2]
theorem k_new (sr : List (Int × Int)) (k : Nat) (h : ¬ (0 < (kI sr k).length ∧ (kI sr k).getD ((kI sr k).length - 1) 0 = (sr.getD k (0, 0)).1)) :
    kI sr (k + 1) = kI sr k ++ [(sr.getD k (0, 0)).1] ∧ kU sr (k + 1) = kU sr k ++ [(sr.getD k (0, 0)).2] ∧ kC sr (k + 1) = kC sr k ++ [1] := by
  have hl : (kI sr k).length = (mg Prod.snd sr k).length := by simp [kI]
  have hs : ¬ sameAt (mg Prod.snd sr k) (sr.getD k (0, 0)).1 = true := by
    intro hs
    simp only [sameAt, Bool.and_eq_true, decide_eq_true_iff] at hs
    exact h ⟨by omega, by rw [hl, ← hs.2, (lastAt_map _ hs.1).1]; rfl⟩
  have hs2 : ¬ sameAt (mg (fun _ => 1) sr k) (sr.getD k (0, 0)).1 = true := by rw [sameAt_fst (mg_fst _ Prod.snd sr k)]; exact hs
  refine ⟨?_, ?_, ?_⟩
  · unfold kI; rw [mg, tkAdd, if_neg hs, List.map_append]; rfl
  · unfold kU; rw [mg, tkAdd, if_neg hs, List.map_append]; rfl
  · unfold kC; rw [mg, tkAdd, if_neg hs2, List.map_append]; rfl
end Go.Proofs.Qxb6628726a
