/-
  zzBuild (seat b6628650a): one link more: the two statements that append.
-/
import Derived.Test.Qxb6628650aBldB
import Derived.Deep.RegionLaw
namespace Go.Proofs.Qxb6628650a
open Go.RowKit
set_option linter.unusedVariables false
attribute [local go_sem ↓] Go.wp_at_zero Go.wp_at_succ

theorem info44 : (Try.prog.info? 44).map (fun i => (i.zero, i.size, i.bytes)) = some (some (.slice none 0 0), 1, 24) := by kernel_rfl
theorem info40 : (Try.prog.info? 40).map (fun i => (i.zero, i.size, i.bytes)) = some (some (.agg #[.int .i64 0, .int .i64 0]), 2, 16) := by kernel_rfl
theorem info46 : (Try.prog.info? 46).map (fun i => (i.zero, i.size, i.bytes)) = some (some (.agg #[.int .i64 0, .float .f64 0, .int .i64 0]), 3, 24) := by kernel_rfl

/-- The arcs in memory. -/
abbrev RA (w : World) (B g k : Nat) (f : Nat → Int) : Prop := w.ownsRow B 40 2 (QV g k k) k ((List.range (k * 2)).map fun i => .int .i64 (f i))
theorem RA.lt {w : World} {B g n : Nat} {p : Nat → Int} (h : RA w B g n p) : B ≤ g ∧ g < w.heap.size := World.ownsRow.lt h g rfl
theorem RA.at_ {w : World} {B g n : Nat} {p : Nat → Int} (h : RA w B g n p) (i : Nat) (hi : i < n * 2) : w.cell? ⟨g, i, none⟩ = some (.int .i64 (p i)) := by
  rw [World.ownsRow.cellAt h i hi]; simp [hi]
theorem RA.fz {w : World} {B g n : Nat} {p : Nat → Int} (h : RA w B g n p) (i : Nat) : w.frozen? ⟨g, i, none⟩ = false := World.ownsRow.frozenAt h i
theorem RA.set {w : World} {B g n : Nat} {p : Nat → Int} (h : RA w B g n p) (j : Nat) (x : Int) : RA (w.setCell ⟨g, j, none⟩ (.int .i64 x)) B g n (updZ p j x) := by
  have := (World.ownsRow.stored h j (.int .i64 x)).1
  have e : ((List.range (n * 2)).map fun i => Value.int .i64 (updZ p j x i)) = ((List.range (n * 2)).map fun i => Value.int .i64 (p i)).set j (.int .i64 x) := by
    apply List.ext_getElem?
    intro i
    rw [List.getElem?_set]
    by_cases c : j = i
    · subst c
      rw [if_pos rfl]
      by_cases d : j < n * 2
      · simp [d, updZ]
      · simp [d]
    · rw [if_neg c]
      by_cases d : i < n * 2
      · simp [d, updZ, Ne.symm c]
      · simp [d]
  unfold RA
  rw [e]
  exact this
theorem RA.congr {w : World} {B g n : Nat} {p q : Nat → Int} (h : RA w B g n p) (e : ∀ i, i < n * 2 → p i = q i) : RA w B g n q := by
  have : ((List.range (n * 2)).map fun i => Value.int .i64 (q i)) = (List.range (n * 2)).map fun i => Value.int .i64 (p i) := List.map_congr_left fun i hi => by rw [e i (by simpa using hi)]
  unfold RA
  rw [this]
  exact h

/-- zzBuild's memory. -/
structure BS (w0 w : World) (B gL ga n m : Nat) (vv : Nat → Value) (adj : Nat → List Lk) (fa : Nat → Int) : Prop where
  l : Lks w B gL n vv adj
  a : RA w B ga m fa
  ne : ga ≠ gL
  va : ∀ v, v < n → (vv v).ownBlock ≠ some ga
  b : Below B w0 w
theorem BS.later {w0 w w' : World} {B gL ga n m : Nat} {vv : Nat → Value} {adj : Nat → List Lk} {fa : Nat → Int} (h : BS w0 w B gL ga n m vv adj fa) (hb : Below w.heap.size w w') (hB : B ≤ w.heap.size) : BS w0 w' B gL ga n m vv adj fa :=
  ⟨h.l.later hb, own_keep h.a (fun k hk => hb.block k (World.ownsRow.lt h.a k hk).2), h.ne, h.va, h.b.trans (hb.mono hB)⟩
theorem BS.setA {w0 w : World} {B gL ga n m : Nat} {vv : Nat → Value} {adj : Nat → List Lk} {fa : Nat → Int} (h : BS w0 w B gL ga n m vv adj fa) (j : Nat) (x : Int) : BS w0 (w.setCell ⟨ga, j, none⟩ (.int .i64 x)) B gL ga n m vv adj (updZ fa j x) :=
  ⟨h.l.off ga j _ h.ne h.va, h.a.set j x, h.ne, h.va, h.b.setCell h.a.lt.1 _⟩
theorem BS.app {w0 w X w1 : World} {B gL gA n m v ga capa : Nat} {vv : Nat → Value} {adj : Nat → List Lk} {fa : Nat → Int} {l : Lk} (h : BS w0 w B gL gA n m vv adj fa) (hB : B ≤ w.heap.size) (hv : v < n) (hX : Below w.heap.size w X)
    (hown : w1.ownsRow B 46 3 (.slice (some ⟨ga, 0, none⟩) ((adj v).length + 1) capa) ((adj v).length + 1) (flat3 (adj v) ++ [.int .i64 (l.1 : Int), .float .f64 l.2.1, .int .i64 (l.2.2 : Int)]))
    (hg : X.grownBy w1 (vv v).ownBlock) (hat : (vv v).ownBlock = some ga ∨ ga = X.heap.size) :
    w1.cell? ⟨gL, v, none⟩ = some (vv v) ∧ w1.frozen? ⟨gL, v, none⟩ = false ∧
    BS w0 (w1.setCell ⟨gL, v, none⟩ (.slice (some ⟨ga, 0, none⟩) ((adj v).length + 1) capa)) B gL gA n m (updV vv v (.slice (some ⟨ga, 0, none⟩) ((adj v).length + 1) capa)) (updV adj v (adj v ++ [l])) fa := by
  obtain ⟨c1, c2, c3, c4, c5⟩ := h.l.app hv hX hown hg hat
  have hXs := hX.size
  refine ⟨c1, c2, c3, own_keep h.a (fun k hk => ?_), h.ne, fun u hu => ?_, h.b.trans ⟨hg.os.trans hX.os, hg.tape.trans hX.tape, hg.output.trans hX.output, ?_, fun k hk => ?_⟩⟩
  · have e := qv_block hk
    rw [← e]
    exact c4 gA h.a.lt.2 h.ne (h.va v hv)
  · by_cases c : u = v
    · rw [c, updV_at]; intro e
      exact c5 gA h.a.lt.2 (h.va v hv) (qv_block e).symm
    · rw [updV_ne c]; exact h.va u hu
  · have := hg.size; simp; omega
  · have := h.l.lt.1
    exact c4 k (by omega) (by omega) (fun e => by have := (h.l.own v hv k e).1; omega)
end Go.Proofs.Qxb6628650a
