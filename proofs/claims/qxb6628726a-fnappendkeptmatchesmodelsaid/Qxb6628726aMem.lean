/-
  THE LOG IN MEMORY (seat b6628726a): what stores, appends and new blocks leave of it.
-/
import Derived.Test.Qxb6628726aLogB
namespace Go.Proofs.Qxb6628726a
open Go.RowKit
set_option linter.unusedVariables false

/-- a and b name no common block. -/
def Apart (a b : Option Nat) : Prop := a = none ∨ a ≠ b
theorem Apart.ne {a : Option Nat} {k : Nat} (h : Apart a (some k)) : a ≠ some k := by
  rcases h with h | h
  · rw [h]; simp
  · exact h
theorem Apart.of_ne {a b : Option Nat} (h : a ≠ b) : Apart a b := .inr h

theorem set_off {x : World} {a b : Addr} {u : Value} (h : a ≠ b) : (x.setCell a u).cell? b = x.cell? b := World.cell?_setCell_other x a b u h
theorem set_at {x : World} {a : Addr} {u u0 : Value} (h : x.cell? a = some u0) : (x.setCell a u).cell? a = some u := World.cell?_setCell_same (w := x) (a := a) (v := u) h

theorem ne_off {L i j : Nat} (h : i ≠ j) : (⟨L, i, none⟩ : Addr) ≠ ⟨L, j, none⟩ := fun e => h (congrArg Addr.off e)
theorem ne_blk {g L i j : Nat} (h : g ≠ L) : (⟨g, i, none⟩ : Addr) ≠ ⟨L, j, none⟩ := fun e => h (congrArg Addr.block e)

theorem grown_set (w : World) (a : Addr) (u : Value) : w.grownBy (w.setCell a u) (some a.block) :=
  ⟨rfl, rfl, rfl, by simp, fun k _ hk => heap_setCell_other w a k u (fun e => hk (by simp [e]))⟩

theorem Row.kept {w w' : World} {B : Nat} {e : TypeId} {v : Value} {l : List (Int × Int)} {r : Option Nat} (h : Row w B e v l) (hg : w.grownBy w' r) (hne : Apart v.ownBlock r) : Row w' B e v l := World.ownsRow.kept h hg hne
theorem Row.setAt {w : World} {B : Nat} {e : TypeId} {v : Value} {l : List (Int × Int)} {a : Addr} {u : Value} (h : Row w B e v l) (hne : Apart v.ownBlock (some a.block)) : Row (w.setCell a u) B e v l := Row.kept h (grown_set w a u) hne

/-- What a method of the log at (L, o) may turn: its own eight cells, its rows tv and cv, and new blocks. -/
structure LogFr (w w' : World) (L o : Nat) (tv tv' cv : Value) : Prop where
  os : w'.os = w.os
  tape : w'.tape = w.tape
  output : w'.output = w.output
  size : w.heap.size ≤ w'.heap.size
  block : ∀ k, k < w.heap.size → k ≠ L → some k ≠ tv.ownBlock → some k ≠ cv.ownBlock → w'.heap[k]? = w.heap[k]?
  cells : ∀ j, (j < o ∨ o + 8 ≤ j) → w'.cell? ⟨L, j, none⟩ = w.cell? ⟨L, j, none⟩
  froz : ∀ j, w'.frozen? ⟨L, j, none⟩ = w.frozen? ⟨L, j, none⟩
  lies : tv'.ownBlock = tv.ownBlock ∨ ∃ g, tv'.ownBlock = some g ∧ w.heap.size ≤ g

theorem LogFr.refl (w : World) (L o : Nat) (tv cv : Value) : LogFr w w L o tv tv cv := ⟨rfl, rfl, rfl, Nat.le_refl _, fun _ _ _ _ _ => rfl, fun _ _ => rfl, fun _ => rfl, .inl rfl⟩

theorem LogFr.below {w w1 w2 : World} {L o : Nat} {tv tv' cv : Value} (h : LogFr w w1 L o tv tv' cv) (hL : L < w1.heap.size) (hb : Below w1.heap.size w1 w2) : LogFr w w2 L o tv tv' cv :=
  ⟨hb.os.trans h.os, hb.tape.trans h.tape, hb.output.trans h.output, Nat.le_trans h.size hb.size, fun k a b c d => (hb.block k (Nat.lt_of_lt_of_le a h.size)).trans (h.block k a b c d),
    fun j hj => (hb.cell (p := ⟨L, j, none⟩) hL).trans (h.cells j hj), fun j => (hb.frozen (p := ⟨L, j, none⟩) hL).trans (h.froz j), h.lies⟩

theorem LogFr.setL {w w1 : World} {L o : Nat} {tv tv' cv : Value} (h : LogFr w w1 L o tv tv' cv) (j : Nat) (hj : o ≤ j) (hj2 : j < o + 8) (u : Value) : LogFr w (w1.setCell ⟨L, j, none⟩ u) L o tv tv' cv :=
  ⟨h.os, h.tape, h.output, by simpa using h.size, fun k a b c d => (heap_setCell_other w1 ⟨L, j, none⟩ k u b).trans (h.block k a b c d),
    fun i hi => (set_off (ne_off (by omega))).trans (h.cells i hi), fun i => (World.frozen?_setCell ..).trans (h.froz i), h.lies⟩

/-- A store into the log's row cv, or into its row tv. -/
theorem LogFr.setRow {w w1 : World} {L o : Nat} {tv tv' cv : Value} (h : LogFr w w1 L o tv tv' cv) (g j : Nat) (u : Value) (hL : g ≠ L) (hg : some g = cv.ownBlock ∨ some g = tv'.ownBlock) : LogFr w (w1.setCell ⟨g, j, none⟩ u) L o tv tv' cv := by
  refine ⟨h.os, h.tape, h.output, by simpa using h.size, fun k a b c d => ?_,
    fun i hi => (set_off (ne_blk hL)).trans (h.cells i hi), fun i => (World.frozen?_setCell ..).trans (h.froz i), h.lies⟩
  rw [heap_setCell_other w1 ⟨g, j, none⟩ k u ?_]
  · exact h.block k a b c d
  · intro e
    subst e
    rcases hg with hg | hg
    · exact d hg
    · rcases h.lies with l | ⟨g', l, hl⟩
      · exact c (hg.trans l)
      · rw [l] at hg; simp at hg; omega

/-- An append onto tv. -/
theorem LogFr.led {w w1 w2 : World} {L o : Nat} {tv tv1 tv2 cv : Value} (h : LogFr w w1 L o tv tv1 cv) (hl : Led w1 w2 tv1 tv2) (hL : L < w1.heap.size) (hne : tv1.ownBlock ≠ some L) : LogFr w w2 L o tv tv2 cv := by
  refine ⟨hl.grown.os.trans h.os, hl.grown.tape.trans h.tape, hl.grown.output.trans h.output, Nat.le_trans h.size hl.grown.size, fun k a b c d => ?_,
    fun j hj => (World.cell?_of_block (hl.grown.block L hL (Ne.symm hne))).trans (h.cells j hj), fun j => (World.frozen?_of_block (hl.grown.block L hL (Ne.symm hne))).trans (h.froz j), ?_⟩
  · rw [hl.grown.block k (Nat.lt_of_lt_of_le a h.size) ?_]
    · exact h.block k a b c d
    · intro e
      rcases h.lies with l | ⟨g', l, hl⟩
      · exact c (e.trans l)
      · rw [l] at e; simp at e; omega
  · rcases hl.lies with l | ⟨g, l, hg⟩
    · rw [l]; exact h.lies
    · exact .inr ⟨g, l, Nat.le_trans h.size hg⟩

/-- The log, whole: its cells, its three rows, and that they lie apart. -/
structure Log (w : World) (B L o : Nat) (wv tv cv : Value) (base : Nat) (lim : Bool) (wins tk cn : List (Int × Int)) : Prop where
  c : LogC w L o wv tv cv base lim
  rw : Row w B 66 wv wins
  rt : Row w B 75 tv tk
  rc : Row w B 77 cv cn
  wL : Apart wv.ownBlock (some L)
  tL : Apart tv.ownBlock (some L)
  cL : Apart cv.ownBlock (some L)
  wt : Apart wv.ownBlock tv.ownBlock
  wc : Apart wv.ownBlock cv.ownBlock
  tc : Apart tv.ownBlock cv.ownBlock
  ct : Apart cv.ownBlock tv.ownBlock
  BL : B ≤ L

theorem Log.below {w w' : World} {B L o : Nat} {wv tv cv : Value} {base : Nat} {lim : Bool} {wins tk cn : List (Int × Int)} (h : Log w B L o wv tv cv base lim wins tk cn) (hb : Below w.heap.size w w') : Log w' B L o wv tv cv base lim wins tk cn :=
  ⟨h.c.below hb, Row.below h.rw hb, Row.below h.rt hb, Row.below h.rc hb, h.wL, h.tL, h.cL, h.wt, h.wc, h.tc, h.ct, h.BL⟩

/-- The base is stored anew. -/
theorem Log.setBase {w : World} {B L o : Nat} {wv tv cv : Value} {base : Nat} {lim : Bool} {wins tk cn : List (Int × Int)} (h : Log w B L o wv tv cv base lim wins tk cn) (N : Nat) :
    Log (((w.setCell ⟨L, o + 1, none⟩ (.int .u64 (ns N))).setCell ⟨L, o + 2, none⟩ (.int .i64 (sc N))).setCell ⟨L, o + 3, none⟩ (.pointer none)) B L o wv tv cv N lim wins tk cn := by
  obtain ⟨⟨c0, c1, c2, c3, c4, c5, c6, c7, fz⟩, r1, r2, r3, a1, a2, a3, a4, a5, a6, a7, a8⟩ := h
  have off : ∀ (x : World) (i j : Nat) (u : Value), i ≠ j → (x.setCell ⟨L, i, none⟩ u).cell? ⟨L, j, none⟩ = x.cell? ⟨L, j, none⟩ := fun x i j u hij => set_off (ne_off hij)
  refine ⟨⟨?_, ?_, ?_, ?_, ?_, ?_, ?_, ?_, ?_⟩, Row.setAt (Row.setAt (Row.setAt r1 a1) a1) a1, Row.setAt (Row.setAt (Row.setAt r2 a2) a2) a2, Row.setAt (Row.setAt (Row.setAt r3 a3) a3) a3, a1, a2, a3, a4, a5, a6, a7, a8⟩
  · rw [off _ _ _ _ (by omega), off _ _ _ _ (by omega), off _ _ _ _ (by omega)]; exact c0
  · rw [off _ _ _ _ (by omega), off _ _ _ _ (by omega)]; exact set_at c1
  · rw [off _ _ _ _ (by omega)]; exact set_at (by rw [off _ _ _ _ (by omega)]; exact c2)
  · exact set_at (by rw [off _ _ _ _ (by omega), off _ _ _ _ (by omega)]; exact c3)
  · rw [off _ _ _ _ (by omega), off _ _ _ _ (by omega), off _ _ _ _ (by omega)]; exact c4
  · rw [off _ _ _ _ (by omega), off _ _ _ _ (by omega), off _ _ _ _ (by omega)]; exact c5
  · rw [off _ _ _ _ (by omega), off _ _ _ _ (by omega), off _ _ _ _ (by omega)]; exact c6
  · rw [off _ _ _ _ (by omega), off _ _ _ _ (by omega), off _ _ _ _ (by omega)]; exact c7
  · intro j; rw [World.frozen?_setCell, World.frozen?_setCell, World.frozen?_setCell]; exact fz j

theorem LogFr.setBase {w w1 : World} {L o : Nat} {tv tv' cv : Value} (h : LogFr w w1 L o tv tv' cv) (u1 u2 u3 : Value) : LogFr w (((w1.setCell ⟨L, o + 1, none⟩ u1).setCell ⟨L, o + 2, none⟩ u2).setCell ⟨L, o + 3, none⟩ u3) L o tv tv' cv :=
  ((h.setL (o + 1) (by omega) (by omega) u1).setL (o + 2) (by omega) (by omega) u2).setL (o + 3) (by omega) (by omega) u3

theorem LogC.setAt {w : World} {L o : Nat} {wv tv cv : Value} {base : Nat} {lim : Bool} (h : LogC w L o wv tv cv base lim) (g j : Nat) (u : Value) (hg : g ≠ L) : LogC (w.setCell ⟨g, j, none⟩ u) L o wv tv cv base lim :=
  h.later (fun i => set_off (ne_blk hg)) (fun i => World.frozen?_setCell ..)

/-- A store into the row tv: the j-th cell. -/
theorem Log.setT {w : World} {B L o : Nat} {wv cv : Value} {g n cap : Nat} {base : Nat} {lim : Bool} {wins tk cn tk' : List (Int × Int)} (h : Log w B L o wv (.slice (some ⟨g, 0, none⟩) n cap) cv base lim wins tk cn) (j : Nat) (u : Value) (hn : n = tk.length) (hl : tk'.length = tk.length) (e : (flat tk).set j u = flat tk') :
    Log (w.setCell ⟨g, j, none⟩ u) B L o wv (.slice (some ⟨g, 0, none⟩) n cap) cv base lim wins tk' cn := by
  obtain ⟨c, r1, r2, r3, a1, a2, a3, a4, a5, a6, a7, a8⟩ := h
  subst hn
  refine ⟨c.setAt g j u (fun e => Apart.ne a2 (by rw [e]; rfl)), Row.setAt r1 a4, ?_, Row.setAt r3 a7, a1, a2, a3, a4, a5, a6, a7, a8⟩
  have := (World.ownsRow.stored r2 j u).1
  rw [e] at this
  unfold Row
  rw [hl]
  exact this

/-- A store into the row cv. -/
theorem Log.setC {w : World} {B L o : Nat} {wv tv : Value} {g n cap : Nat} {base : Nat} {lim : Bool} {wins tk cn cn' : List (Int × Int)} (h : Log w B L o wv tv (.slice (some ⟨g, 0, none⟩) n cap) base lim wins tk cn) (j : Nat) (u : Value) (hn : n = cn.length) (hl : cn'.length = cn.length) (e : (flat cn).set j u = flat cn') :
    Log (w.setCell ⟨g, j, none⟩ u) B L o wv tv (.slice (some ⟨g, 0, none⟩) n cap) base lim wins tk cn' := by
  obtain ⟨c, r1, r2, r3, a1, a2, a3, a4, a5, a6, a7, a8⟩ := h
  subst hn
  refine ⟨c.setAt g j u (fun e => Apart.ne a3 (by rw [e]; rfl)), Row.setAt r1 a5, Row.setAt r2 a6, ?_, a1, a2, a3, a4, a5, a6, a7, a8⟩
  have := (World.ownsRow.stored r3 j u).1
  rw [e] at this
  unfold Row
  rw [hl]
  exact this

/-- tv is appended to (w to w1), and its field stored anew. -/
theorem Log.app {w w1 : World} {B L o : Nat} {wv tv tv' cv : Value} {base : Nat} {lim : Bool} {wins tk cn tk' : List (Int × Int)} (h : Log w B L o wv tv cv base lim wins tk cn) (hl : Led w w1 tv tv') (hr : Row w1 B 75 tv' tk') :
    Log (w1.setCell ⟨L, o + 4, none⟩ tv') B L o wv tv' cv base lim wins tk' cn := by
  have hLt := h.c.lt
  obtain ⟨c, r1, r2, r3, a1, a2, a3, a4, a5, a6, a7, a8⟩ := h
  have hw := World.ownsRow.lt r1
  have hcv := World.ownsRow.lt r3
  have b1 : Apart tv'.ownBlock (some L) := by
    rcases hl.lies with l | ⟨g, l, hg⟩
    · rw [l]; exact a2
    · right; rw [l]; simp; omega
  have ap : ∀ x : Option Nat, (∀ k, x = some k → k < w.heap.size) → Apart x tv.ownBlock → Apart x tv'.ownBlock := by
    intro x hx ha
    rcases hl.lies with l | ⟨g, l, hg⟩
    · rw [l]; exact ha
    · cases x with
      | none => exact .inl rfl
      | some k => right; rw [l]; have := hx k rfl; simp; omega
  have b4 : Apart wv.ownBlock tv'.ownBlock := ap _ (fun k hk => (hw k hk).2) a4
  have b7 : Apart cv.ownBlock tv'.ownBlock := ap _ (fun k hk => (hcv k hk).2) a7
  have b6 : Apart tv'.ownBlock cv.ownBlock := by
    rcases hl.lies with l | ⟨g, l, hg⟩
    · rw [l]; exact a6
    · right; rw [l]; intro e; have := (hcv g e.symm).2; omega
  have c1 := c.led hl (Apart.ne a2)
  have off : ∀ (x : World) (i j : Nat) (u : Value), i ≠ j → (x.setCell ⟨L, i, none⟩ u).cell? ⟨L, j, none⟩ = x.cell? ⟨L, j, none⟩ := fun x i j u hij => set_off (ne_off hij)
  refine ⟨⟨?_, ?_, ?_, ?_, ?_, ?_, ?_, ?_, ?_⟩, Row.setAt (Row.kept r1 hl.grown a4) a1, Row.setAt hr b1, Row.setAt (Row.kept r3 hl.grown a7) a3, a1, b1, a3, b4, a5, b6, b7, a8⟩
  · rw [off _ _ _ _ (by omega)]; exact c1.c0
  · rw [off _ _ _ _ (by omega)]; exact c1.c1
  · rw [off _ _ _ _ (by omega)]; exact c1.c2
  · rw [off _ _ _ _ (by omega)]; exact c1.c3
  · exact set_at c1.c4
  · rw [off _ _ _ _ (by omega)]; exact c1.c5
  · rw [off _ _ _ _ (by omega)]; exact c1.c6
  · rw [off _ _ _ _ (by omega)]; exact c1.c7
  · intro j; rw [World.frozen?_setCell]; exact c1.fz j

end Go.Proofs.Qxb6628726a
