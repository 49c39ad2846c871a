/-
  THE QUEUE IN MEMORY (seat b6628650a): a row of pairs (node, length) behind a pointer; Len, Less, Swap.
-/
import Derived.Test.Qxb6628650aFltB
import Derived.WalkKit
import Derived.WalkSpells
import Derived.WalkLawsBesides
import Derived.Deep.RegionHeld3
import Derived.Deep.AppendLies
import Derived.Deep.DeepCutAuto
import Derived.Deep.CutBlock
import Derived.Deep.DrawnRows
import Derived.Laws.BitsAllLaws
import Derived.BigQuiet
import Derived.Lib.SliceRun
namespace Go.Proofs.Qxb6628650a
open Go.RowKit
set_option linter.unusedVariables false
attribute [local go_sem ↓] Go.wp_at_zero Go.wp_at_succ

@[go_sem] theorem run_store_float (P : Program) (w : World) (a : Addr) (m : Mode) (k : FloatKind) (n : Nat) : (store a (.float k n) m).run P w = stored P w a (.float k n) m := run_store P w a _ m rfl

theorem hide {p : Prop} (h : p) : Hid p := h

/-! The list of the queue. -/
abbrev QL : Type := List (Nat × Nat)
def gt (q : QL) (i : Nat) : Nat × Nat := q.getD i (0, 0)
def sw (q : QL) (i j : Nat) : QL := (q.set i (gt q j)).set j (gt q i)
theorem sw_len (q : QL) (i j : Nat) : (sw q i j).length = q.length := by simp [sw]
theorem gt_sw (q : QL) (i j k : Nat) (hi : i < q.length) (hj : j < q.length) : gt (sw q i j) k = if k = j then gt q i else if k = i then gt q j else gt q k := by
  unfold sw gt
  simp only [List.getD_eq_getElem?_getD, List.getElem?_set, List.length_set]
  by_cases c : j = k
  · subst c; simp [hj]
  · rw [if_neg c, if_neg (Ne.symm c)]
    by_cases d : i = k
    · subst d; simp [hi]
    · rw [if_neg d, if_neg (Ne.symm d)]
theorem sw_perm (q : QL) (i j : Nat) (hi : i < q.length) (hj : j < q.length) : (sw q i j).Perm q := by
  rw [List.perm_iff_count]
  intro b
  unfold sw
  have ei : gt q i = q[i] := by simp [gt, hi]
  have ej : gt q j = q[j] := by simp [gt, hj]
  rw [List.count_set (by simpa using hj), List.count_set hi, ei, ej]
  have e : (q.set i q[j])[j]'(by simpa using hj) = if i = j then q[j] else q[j] := by rw [List.getElem_set]
  rw [e]
  simp only [ite_self]
  have p1 : 0 < List.count q[i] q := List.count_pos_iff.2 (List.getElem_mem hi)
  have p2 : 0 < List.count q[j] q := List.count_pos_iff.2 (List.getElem_mem hj)
  by_cases a : (q[i] == b) = true
  · have a' := beq_iff_eq.1 a
    subst a'
    by_cases c : (q[j] == q[i]) = true
    · simp [c]
    · simp [c]
  · by_cases c : (q[j] == b) = true
    · have c' := beq_iff_eq.1 c
      subst c'
      simp [a]
    · simp [a, c]

def flatQ : QL → List Value
  | [] => []
  | p :: l => .int .i64 (p.1 : Int) :: .float .f64 p.2 :: flatQ l
theorem flatQ_len : ∀ l, (flatQ l).length = l.length * 2
  | [] => rfl
  | p :: l => by simp [flatQ, flatQ_len l]; omega
theorem flatQ_app : ∀ l m, flatQ (l ++ m) = flatQ l ++ flatQ m
  | [], m => rfl
  | p :: l, m => by simp [flatQ, flatQ_app l m]
theorem flatQ_at : ∀ (l : QL) (i : Nat), i < l.length → (flatQ l)[i * 2]? = some (.int .i64 ((gt l i).1 : Int)) ∧ (flatQ l)[i * 2 + 1]? = some (.float .f64 (gt l i).2)
  | p :: l, 0, _ => by simp [flatQ, gt]
  | p :: l, i + 1, h => by
    have := flatQ_at l i (by simpa using h)
    rw [show (i + 1) * 2 = i * 2 + 2 by omega]
    simpa [flatQ, gt] using this
theorem flatQ_set : ∀ (l : QL) (i : Nat) (x : Nat × Nat), i < l.length → ((flatQ l).set (i * 2) (.int .i64 (x.1 : Int))).set (i * 2 + 1) (.float .f64 x.2) = flatQ (l.set i x)
  | p :: l, 0, x, _ => by simp [flatQ]
  | p :: l, i + 1, x, h => by
    have := flatQ_set l i x (by simpa using h)
    rw [show (i + 1) * 2 = i * 2 + 2 by omega]
    simp [flatQ]; simpa using this
theorem flatQ_take : ∀ (l : QL) (k : Nat), (flatQ l).take (k * 2) = flatQ (l.take k)
  | [], k => by simp [flatQ]
  | p :: l, 0 => by simp [flatQ]
  | p :: l, k + 1 => by
    rw [show (k + 1) * 2 = k * 2 + 2 by omega]
    simp [flatQ, flatQ_take l k]

abbrev QV (g n cap : Nat) : Value := .slice (some ⟨g, 0, none⟩) n cap
abbrev RQ (w : World) (B g cap : Nat) (q : QL) : Prop := w.ownsRow B 62 2 (QV g q.length cap) q.length (flatQ q)
theorem RQ.lt {w : World} {B g cap : Nat} {q : QL} (h : RQ w B g cap q) : B ≤ g ∧ g < w.heap.size := World.ownsRow.lt h g rfl
theorem RQ.at_ {w : World} {B g cap : Nat} {q : QL} (h : RQ w B g cap q) (i : Nat) (hi : i < q.length) : w.cell? ⟨g, i * 2, none⟩ = some (.int .i64 ((gt q i).1 : Int)) ∧ w.cell? ⟨g, i * 2 + 1, none⟩ = some (.float .f64 (gt q i).2) := by
  have a := flatQ_at q i hi
  exact ⟨(World.ownsRow.cellAt h (i * 2) (by omega)).trans a.1, (World.ownsRow.cellAt h (i * 2 + 1) (by omega)).trans a.2⟩
theorem RQ.fz {w : World} {B g cap : Nat} {q : QL} (h : RQ w B g cap q) (i : Nat) : w.frozen? ⟨g, i, none⟩ = false := World.ownsRow.frozenAt h i
theorem RQ.of_block {w w' : World} {B g cap : Nat} {q : QL} (h : RQ w B g cap q) (e : w'.heap[g]? = w.heap[g]?) : RQ w' B g cap q := by
  refine ⟨h.1, ?_⟩
  rcases h.2 with ⟨a, _⟩ | ⟨g', cap', cur, a, b, c, d⟩
  · cases a
  · injection a with a1 _ a3
    injection a1 with a4
    injection a4 with a5 _ _
    subst a5
    exact .inr ⟨_, _, cur, by rw [a3], b, e.trans c, d⟩
theorem RQ.below {w w' : World} {B g cap : Nat} {q : QL} (h : RQ w B g cap q) (hb : Below w.heap.size w w') : RQ w' B g cap q := h.of_block (hb.block g h.lt.2)
theorem RQ.set {w : World} {B g cap : Nat} {q : QL} (h : RQ w B g cap q) (i : Nat) (x : Nat × Nat) (hi : i < q.length) : RQ ((w.setCell ⟨g, i * 2, none⟩ (.int .i64 (x.1 : Int))).setCell ⟨g, i * 2 + 1, none⟩ (.float .f64 x.2)) B g cap (q.set i x) := by
  have h1 := (World.ownsRow.stored h (i * 2) (.int .i64 (x.1 : Int))).1
  have h2 := (World.ownsRow.stored h1 (i * 2 + 1) (.float .f64 x.2)).1
  unfold RQ
  rw [← flatQ_set q i x hi, List.length_set]
  exact h2
theorem RQ.capLe {w : World} {B g cap : Nat} {q : QL} (h : RQ w B g cap q) : q.length ≤ cap := by
  rcases h.2 with ⟨a, _⟩ | ⟨g', cap', cur, a, b, c, d, _⟩
  · cases a
  · injection a with _ _ a3; omega
theorem RQ.cut {w : World} {B g cap : Nat} {q : QL} (h : RQ w B g cap q) (k : Nat) (hk : k ≤ q.length) : RQ w B g cap (q.take k) := by
  rcases h.2 with ⟨a, _⟩ | ⟨g', cap', cur, a, b, c, d1, d2, d3, d4⟩
  · cases a
  · injection a with a1 _ a3
    injection a1 with a4
    injection a4 with a5 _ _
    subst a5 a3
    have hl : (q.take k).length = k := by simp; omega
    refine ⟨by rw [flatQ_len], .inr ⟨g, cap, cur, rfl, b, c, by omega, d2, d3, ?_⟩⟩
    rw [hl, ← flatQ_take, ← d4, List.take_take]
    congr 1
    omega

/-- The queue: a variable at F that holds the slice of q. -/
structure Qs (w : World) (B F g cap : Nat) (q : QL) : Prop where
  c : w.cell? ⟨F, 0, none⟩ = some (QV g q.length cap)
  fz : w.frozen? ⟨F, 0, none⟩ = false
  r : RQ w B g cap q
  ne : F ≠ g
  hF : B ≤ F
/-- Blocks other than F and g stay. -/
structure QFr (w w' : World) (F g g' : Nat) : Prop where
  os : w'.os = w.os
  tape : w'.tape = w.tape
  output : w'.output = w.output
  size : w.heap.size ≤ w'.heap.size
  block : ∀ k, k < w.heap.size → k ≠ F → k ≠ g → w'.heap[k]? = w.heap[k]?
  lies : g' = g ∨ w.heap.size ≤ g'
theorem QFr.refl (w : World) (F g : Nat) : QFr w w F g g := ⟨rfl, rfl, rfl, Nat.le_refl _, fun _ _ _ _ => rfl, .inl rfl⟩
theorem QFr.trans {w w1 w2 : World} {F g g1 g2 : Nat} (a : QFr w w1 F g g1) (b : QFr w1 w2 F g1 g2) : QFr w w2 F g g2 := by
  have hs := a.size
  refine ⟨b.os.trans a.os, b.tape.trans a.tape, b.output.trans a.output, Nat.le_trans a.size b.size, fun k hk h1 h2 => ?_, ?_⟩
  · refine (b.block k (by omega) h1 (fun e => ?_)).trans (a.block k hk h1 h2)
    rcases a.lies with l | l
    · exact h2 (by rw [e, l])
    · omega
  · rcases b.lies with l | l
    · rcases a.lies with l' | l'
      · exact .inl (by rw [l, l'])
      · exact .inr (by omega)
    · exact .inr (by omega)
theorem QFr.of_below {w w' : World} (h : Below w.heap.size w w') (F g : Nat) : QFr w w' F g g := ⟨h.os, h.tape, h.output, h.size, fun k hk _ _ => h.block k hk, .inl rfl⟩
theorem QFr.below {w w' : World} {F g g' B : Nat} (h : QFr w w' F g g') (hF : B ≤ F) (hg : B ≤ g) (hB : B ≤ w.heap.size) : Below B w w' :=
  ⟨h.os, h.tape, h.output, h.size, fun k hk => h.block k (by omega) (by omega) (by omega)⟩
theorem Qs.lt {w : World} {B F g cap : Nat} {q : QL} (h : Qs w B F g cap q) : F < w.heap.size := World.block_lt_of_cell? _ _ h.c
theorem Qs.below {w w' : World} {B F g cap : Nat} {q : QL} (h : Qs w B F g cap q) (hb : Below w.heap.size w w') : Qs w' B F g cap q :=
  ⟨(hb.cell (p := ⟨F, 0, none⟩) h.lt).trans h.c, (hb.frozen (p := ⟨F, 0, none⟩) h.lt).trans h.fz, h.r.below hb, h.ne, h.hF⟩

theorem method_len0 (a : Addr) (w : World) : (method 198 60 (.pointer (some a)) "Len").run Try.prog w = (loadVar 64 a >>= fun v => pure (22, v) : Sem (FuncId × Value)).run Try.prog w := by kernel_rfl
theorem method_len (F : Nat) (v : Value) (w : World) (h : w.cell? ⟨F, 0, none⟩ = some v) : (method 198 60 (.pointer (some ⟨F, 0, none⟩)) "Len").run Try.prog w = .ok (22, v) w := by
  rw [method_len0]; simp [go_sem, h]
theorem method_less0 (a : Addr) (w : World) : (method 198 60 (.pointer (some a)) "Less").run Try.prog w = (loadVar 64 a >>= fun v => pure (51, v) : Sem (FuncId × Value)).run Try.prog w := by kernel_rfl
theorem method_less (F : Nat) (v : Value) (w : World) (h : w.cell? ⟨F, 0, none⟩ = some v) : (method 198 60 (.pointer (some ⟨F, 0, none⟩)) "Less").run Try.prog w = .ok (51, v) w := by
  rw [method_less0]; simp [go_sem, h]
theorem method_swap0 (a : Addr) (w : World) : (method 198 60 (.pointer (some a)) "Swap").run Try.prog w = (loadVar 64 a >>= fun v => pure (54, v) : Sem (FuncId × Value)).run Try.prog w := by kernel_rfl
theorem method_swap (F : Nat) (v : Value) (w : World) (h : w.cell? ⟨F, 0, none⟩ = some v) : (method 198 60 (.pointer (some ⟨F, 0, none⟩)) "Swap").run Try.prog w = .ok (54, v) w := by
  rw [method_swap0]; simp [go_sem, h]
theorem method_push (a : Addr) (w : World) : (method 198 60 (.pointer (some a)) "Push").run Try.prog w = .ok (53, .pointer (some a)) w := by kernel_rfl
theorem method_pop (a : Addr) (w : World) : (method 198 60 (.pointer (some a)) "Pop").run Try.prog w = .ok (52, .pointer (some a)) w := by kernel_rfl
end Go.Proofs.Qxb6628650a
