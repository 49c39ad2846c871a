/-
  THE SEARCH IN MEMORY (seat b6628650a): lengths, settled nodes, the graph that is read.
-/
import Derived.Test.Qxb6628650aHpD
import Derived.Test.Qxb6628650aDij
namespace Go.Proofs.Qxb6628650a
open Go.RowKit
set_option linter.unusedVariables false
attribute [local go_sem ↓] Go.wp_at_zero Go.wp_at_succ

theorem info41 : (Try.prog.info? 41).map (fun i => (i.zero, i.size, i.bytes)) = some (some (.float .f64 0), 1, 8) := by kernel_rfl
theorem info3 : (Try.prog.info? 3).map (fun i => (i.zero, i.size, i.bytes)) = some (some (.int .i64 0), 1, 8) := by kernel_rfl

set_option maxRecDepth 100000 in
theorem inf_any (w : World) : Calls Try.prog 21 #[.int .i64 1] w fun e w' => e = .returned (.float .f64 infW) ∧ w' = w := by
  have hx : ∀ w : World, (callFunc 28 #[.int .u64 9218868437227405312]).run Try.prog w = .ok (.value (.float .f64 9218868437227405312)) w := fun _ => by kernel_rfl
  go_enter Try.func21, Try.ntmps21
  go_wp2_with fail
  go_ret
  exact ⟨rfl, rfl⟩

/-- A row of lengths. -/
abbrev RF (w : World) (B g n : Nat) (km : Nat → Nat) : Prop := w.ownsRow B 41 1 (QV g n n) n ((List.range n).map fun i => .float .f64 (km i))
theorem RF.lt {w : World} {B g n : Nat} {p : Nat → Nat} (h : RF w B g n p) : B ≤ g ∧ g < w.heap.size := World.ownsRow.lt h g rfl
theorem RF.at_ {w : World} {B g n : Nat} {p : Nat → Nat} (h : RF w B g n p) (i : Nat) (hi : i < n) : w.cell? ⟨g, i, none⟩ = some (.float .f64 (p i)) := by
  rw [World.ownsRow.cellAt h i (by omega)]; simp [hi]
theorem RF.fz {w : World} {B g n : Nat} {p : Nat → Nat} (h : RF w B g n p) (i : Nat) : w.frozen? ⟨g, i, none⟩ = false := World.ownsRow.frozenAt h i
theorem RF.of_block {w w' : World} {B g n : Nat} {p : Nat → Nat} (h : RF w B g n p) (e : w'.heap[g]? = w.heap[g]?) : RF w' B g n p := by
  refine ⟨h.1, ?_⟩
  rcases h.2 with ⟨a, _⟩ | ⟨g', cap', cur, a, b, c, d⟩
  · cases a
  · injection a with a1 _ a3
    injection a1 with a4
    injection a4 with a5 _ _
    subst a5
    exact .inr ⟨_, _, cur, by rw [a3], b, e.trans c, d⟩
theorem RF.congr {w : World} {B g n : Nat} {p q : Nat → Nat} (h : RF w B g n p) (e : ∀ i, i < n → p i = q i) : RF w B g n q := by
  have : ((List.range n).map fun i => Value.float .f64 (q i)) = (List.range n).map fun i => Value.float .f64 (p i) := List.map_congr_left fun i hi => by rw [e i (by simpa using hi)]
  unfold RF
  rw [this]
  exact h
theorem RF.set {w : World} {B g n : Nat} {p : Nat → Nat} (h : RF w B g n p) (j x : Nat) : RF (w.setCell ⟨g, j, none⟩ (.float .f64 x)) B g n (upd p j x) := by
  have := (World.ownsRow.stored h j (.float .f64 x)).1
  have e : ((List.range n).map fun i => Value.float .f64 (upd p j x i)) = ((List.range n).map fun i => Value.float .f64 (p i)).set j (.float .f64 x) := by
    apply List.ext_getElem?
    intro i
    rw [List.getElem?_set]
    by_cases c : j = i
    · subst c
      rw [if_pos rfl]
      by_cases d : j < n
      · simp [d, upd]
      · simp [d]
    · rw [if_neg c]
      by_cases d : i < n
      · simp [d, upd, Ne.symm c]
      · simp [d]
  unfold RF
  rw [e]
  exact this
theorem RF.made {w : World} {B g n : Nat} (h : w.ownsRow B 41 1 (.slice (some ⟨g, 0, none⟩) n n) n (madeCells #[Value.float .f64 0] n).toList) : RF w B g n (fun _ => 0) := by
  have e : (madeCells #[Value.float .f64 0] n).toList = (List.range n).map fun i => Value.float .f64 0 := by
    rw [toList_madeCells_one]
    apply List.ext_getElem?
    intro i
    by_cases d : i < n
    · simp [d]
    · simp [d]
  unfold RF
  rw [← e]
  exact h

abbrev IN (S : List Nat) : List Value := S.map fun (x : Nat) => Value.int .i64 (x : Int)
/-- A slice of nodes. -/
abbrev RN (w : World) (B : Nat) (v : Value) (S : List Nat) : Prop := w.ownsRow B 3 1 v S.length (IN S)
theorem RN.keep {w w' : World} {B : Nat} {v : Value} {S : List Nat} (h : RN w B v S) (e : ∀ k, v.ownBlock = some k → w'.heap[k]? = w.heap[k]?) : RN w' B v S := by
  refine ⟨h.1, ?_⟩
  rcases h.2 with a | ⟨g, cap, cur, a, b, c, d⟩
  · exact .inl a
  · exact .inr ⟨g, cap, cur, a, b, (e g (by rw [a]; rfl)).trans c, d⟩
theorem RN.snoc {w : World} {B : Nat} {v : Value} {S : List Nat} {x : Nat} (h : w.ownsRow B 3 1 v (S.length + 1) (IN S ++ [.int .i64 (x : Int)])) : RN w B v (S ++ [x]) := by
  unfold RN
  rw [show IN (S ++ [x]) = IN S ++ [.int .i64 (x : Int)] by simp, List.length_append]
  exact h

/-- The graph, as the search reads it. -/
structure Tp (w : World) (T n : Nat) (adj : Nat → List Lk) (gL cap : Nat) : Prop where
  c : w.cell? ⟨T, 2, none⟩ = some (QV gL n cap)
  g : gL < w.heap.size
  v : ∀ v, v < n → ∃ a c, w.cell? ⟨gL, v, none⟩ = some (.slice a (adj v).length c) ∧ ∀ j, j < (adj v).length → ∃ b off, a = some ⟨b, off, none⟩ ∧ b < w.heap.size ∧ w.cell? ⟨b, off + j * 3, none⟩ = some (.int .i64 ((lk adj v j).1 : Int)) ∧ w.cell? ⟨b, off + j * 3 + 1, none⟩ = some (.float .f64 (lk adj v j).2.1) ∧ w.cell? ⟨b, off + j * 3 + 2, none⟩ = some (.int .i64 ((lk adj v j).2.2 : Int))
theorem cell_later {w w' : World} {a : Addr} {v : Value} (hb : Below w.heap.size w w') (h : w.cell? a = some v) : w'.cell? a = some v := (hb.cell (World.block_lt_of_cell? _ _ h)).trans h
theorem Tp.later {w w' : World} {T n : Nat} {adj : Nat → List Lk} {gL cap : Nat} (h : Tp w T n adj gL cap) (hb : Below w.heap.size w w') : Tp w' T n adj gL cap := by
  refine ⟨cell_later hb h.c, Nat.lt_of_lt_of_le h.g hb.size, fun v hv => ?_⟩
  obtain ⟨a, c, e, k⟩ := h.v v hv
  refine ⟨a, c, cell_later hb e, fun j hj => ?_⟩
  obtain ⟨b, off, e1, e2, e3, e4, e5⟩ := k j hj
  exact ⟨b, off, e1, Nat.lt_of_lt_of_le e2 hb.size, cell_later hb e3, cell_later hb e4, cell_later hb e5⟩

/-- The search's own memory. -/
structure SS (w0 w : World) (B gk F g cap n : Nat) (vs : Value) (km : Nat → Nat) (S : List Nat) (q : QL) : Prop where
  k : RF w B gk n km
  s : RN w B vs S
  q : Qs w B F g cap q
  kF : gk ≠ F
  kg : gk ≠ g
  vk : vs.ownBlock ≠ some gk
  vF : vs.ownBlock ≠ some F
  vg : vs.ownBlock ≠ some g
  b : Below B w0 w
theorem SS.later {w0 w w' : World} {B gk F g cap n : Nat} {vs : Value} {km : Nat → Nat} {S : List Nat} {q : QL} (h : SS w0 w B gk F g cap n vs km S q) (hb : Below w.heap.size w w') (hB : B ≤ w.heap.size) : SS w0 w' B gk F g cap n vs km S q :=
  ⟨h.k.of_block (hb.block gk h.k.lt.2), h.s.keep (fun k hk => hb.block k (World.ownsRow.lt h.s k hk).2), h.q.below hb, h.kF, h.kg, h.vk, h.vF, h.vg, h.b.trans (hb.mono hB)⟩
theorem SS.queue {w0 w w' : World} {B gk F g cap n g' cap' : Nat} {vs : Value} {km : Nat → Nat} {S : List Nat} {q q' : QL} (h : SS w0 w B gk F g cap n vs km S q) (hq : Qs w' B F g' cap' q') (fr : QFr w w' F g g') (hB : B ≤ w.heap.size) : SS w0 w' B gk F g' cap' n vs km S q' := by
  have lk := h.k.lt.2
  have hne : ∀ k, k < w.heap.size → k ≠ g → k ≠ g' := fun k hk hn e => by
    rcases fr.lies with l | l
    · exact hn (by rw [e, l])
    · omega
  refine ⟨h.k.of_block (fr.block gk lk h.kF h.kg), h.s.keep (fun k hk => fr.block k (World.ownsRow.lt h.s k hk).2 (fun e => h.vF (by rw [hk, e])) (fun e => h.vg (by rw [hk, e]))), hq, h.kF, hne gk lk h.kg, h.vk, h.vF, fun e => ?_, h.b.trans (fr.below h.q.hF h.q.r.lt.1 hB)⟩
  exact hne g' (World.ownsRow.lt h.s g' e).2 (fun e2 => h.vg (by rw [e, e2])) rfl
theorem SS.setK {w0 w : World} {B gk F g cap n : Nat} {vs : Value} {km : Nat → Nat} {S : List Nat} {q : QL} (h : SS w0 w B gk F g cap n vs km S q) (j x : Nat) : SS w0 (w.setCell ⟨gk, j, none⟩ (.float .f64 x)) B gk F g cap n vs (upd km j x) S q := by
  have o : ∀ k, k ≠ gk → (w.setCell ⟨gk, j, none⟩ (.float .f64 x)).heap[k]? = w.heap[k]? := fun k hk => heap_setCell_other w ⟨gk, j, none⟩ k _ hk
  refine ⟨h.k.set j x, h.s.keep (fun k hk => o k (fun e => h.vk (by rw [hk, e]))), ⟨(World.cell?_of_block (o F (Ne.symm h.kF))).trans h.q.c, (World.frozen?_of_block (o F (Ne.symm h.kF))).trans h.q.fz, h.q.r.of_block (o g (Ne.symm h.kg)), h.q.ne, h.q.hF⟩, h.kF, h.kg, h.vk, h.vF, h.vg, h.b.setCell h.k.lt.1 _⟩
theorem SS.app {w0 w w1 : World} {B gk F g cap n ga capa x : Nat} {vs : Value} {km : Nat → Nat} {S : List Nat} {q : QL} {o : Obj} (h : SS w0 w B gk F g cap n vs km S q) (hB : B ≤ w.heap.size)
    (hown : w1.ownsRow B 3 1 (.slice (some ⟨ga, 0, none⟩) (S.length + 1) capa) (S.length + 1) (IN S ++ [.int .i64 (x : Int)])) (hg : (w.alloc o).grownBy w1 vs.ownBlock) (hat : vs.ownBlock = some ga ∨ ga = w.heap.size + 1) :
    SS w0 w1 B gk F g cap n (.slice (some ⟨ga, 0, none⟩) (S.length + 1) capa) km (S ++ [x]) q := by
  have key : ∀ k, k < w.heap.size → vs.ownBlock ≠ some k → w1.heap[k]? = w.heap[k]? := fun k hk hn => by
    rw [hg.block k (by simp; omega) (fun e => hn e.symm)]
    exact heap_alloc_old w o hk
  have off : ∀ k, k < w.heap.size → vs.ownBlock ≠ some k → some ga ≠ some k := fun k hk hn e => by
    rcases hat with l | l
    · exact hn (by rw [l]; exact e)
    · have : ga = k := by simpa using e
      omega
  have lk := h.k.lt.2
  have lF := h.q.lt
  have lg := h.q.r.lt.2
  have eF := key F lF h.vF
  refine ⟨h.k.of_block (key gk lk h.vk), RN.snoc hown, ⟨(World.cell?_of_block eF).trans h.q.c, (World.frozen?_of_block eF).trans h.q.fz, h.q.r.of_block (key g lg h.vg), h.q.ne, h.q.hF⟩, h.kF, h.kg, off gk lk h.vk, off F lF h.vF, off g lg h.vg, h.b.trans ?_⟩
  have e : Below B w (w.alloc o) := (Below.refl _ _).alloc hB _
  refine e.trans ⟨hg.os, hg.tape, hg.output, hg.size, fun k hk => hg.block k (by simp; omega) (fun e => ?_)⟩
  have := (World.ownsRow.lt h.s k e.symm).1
  omega
end Go.Proofs.Qxb6628650a
