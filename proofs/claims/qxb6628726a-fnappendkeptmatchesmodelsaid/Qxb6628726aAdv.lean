/-
  THE WALK of windowLog.advance (seat b6628726a), first part: each window frees what left it.
-/
import Derived.Test.Qxb6628726aTwo
import Derived.Test.Qxb6628726aCopy
import Derived.BigRegion
namespace Go.Proofs.Qxb6628726a
open Go.RowKit
set_option linter.unusedVariables false
attribute [local go_sem ↓] Go.wp_at_zero Go.wp_at_succ

/-- Is the entry e needed by a window, units u being counted from e on? -/
def need (lim : Bool) (left limit u : Int) (e : Int × Int) : Bool := decide (left < e.1) && (!lim || decide (u - e.2 < limit))
def adv1 (tk : List (Int × Int)) (lim : Bool) (left limit : Int) : Nat → Int → Int → Int × Int
  | 0, s, u => (s, u)
  | f + 1, s, u => if s < tk.length then (if need lim left limit u (tk.getD s.toNat (0, 0)) then (s, u) else adv1 tk lim left limit f (s + 1) (wrap64 (u - (tk.getD s.toNat (0, 0)).2))) else (s, u)
theorem adv1_end {tk : List (Int × Int)} {lim : Bool} {left limit s u : Int} {f : Nat} (h : ¬ s < tk.length) : adv1 tk lim left limit f s u = (s, u) := by
  cases f with
  | zero => rfl
  | succ f => rw [adv1, if_neg h]
theorem adv1_stop {tk : List (Int × Int)} {lim : Bool} {left limit s u : Int} {f : Nat} (h : s < tk.length) (hn : need lim left limit u (tk.getD s.toNat (0, 0)) = true) : adv1 tk lim left limit (f + 1) s u = (s, u) := by
  rw [adv1, if_pos h, if_pos hn]
theorem adv1_more {tk : List (Int × Int)} {lim : Bool} {left limit s u : Int} {f : Nat} (h : s < tk.length) (hn : need lim left limit u (tk.getD s.toNat (0, 0)) = false) : adv1 tk lim left limit (f + 1) s u = adv1 tk lim left limit f (s + 1) (wrap64 (u - (tk.getD s.toNat (0, 0)).2)) := by
  rw [adv1, if_pos h, hn, if_neg (by simp)]

/-- Where window j stands behind advance at T. -/
def advR (wins tk cn : List (Int × Int)) (lim : Bool) (D : Int) (j : Nat) : Int × Int :=
  adv1 tk lim (D - (wins.getD j (0, 0)).2) (wins.getD j (0, 0)).1 tk.length (cn.getD j (0, 0)).1 (cn.getD j (0, 0)).2
def cnA (wins tk cn : List (Int × Int)) (lim : Bool) (D : Int) (k : Nat) : List (Int × Int) := (List.range cn.length).map fun j => if j < k then advR wins tk cn lim D j else cn.getD j (0, 0)
theorem cnA_len (wins tk cn : List (Int × Int)) (lim : Bool) (D : Int) (k : Nat) : (cnA wins tk cn lim D k).length = cn.length := by simp [cnA]
theorem cnA_zero (wins tk cn : List (Int × Int)) (lim : Bool) (D : Int) : cnA wins tk cn lim D 0 = cn := by
  apply List.ext_getElem?
  intro i
  simp only [cnA, List.getElem?_map]
  by_cases c : i < cn.length
  · simp [c]
  · simp [c]
theorem cnA_at (wins tk cn : List (Int × Int)) (lim : Bool) (D : Int) (k : Nat) (h : k < cn.length) : (cnA wins tk cn lim D k).getD k (0, 0) = cn.getD k (0, 0) := by
  simp [cnA, h]
theorem cnA_set (wins tk cn : List (Int × Int)) (lim : Bool) (D : Int) (k : Nat) (h : k < cn.length) : (cnA wins tk cn lim D k).set k (advR wins tk cn lim D k) = cnA wins tk cn lim D (k + 1) := by
  apply List.ext_getElem?
  intro i
  rw [List.getElem?_set]
  simp only [cnA, List.getElem?_map, List.length_map, List.length_range]
  by_cases c : k = i
  · subst c; simp [h]
  · rw [if_neg c]
    by_cases d : i < cn.length
    · simp only [List.getElem?_range d, Option.map_some]
      by_cases e : i < k
      · rw [if_pos e, if_pos (by omega)]
      · rw [if_neg e, if_neg (by omega)]
    · simp [d]

theorem adv1_ge (tk : List (Int × Int)) (lim : Bool) (left limit : Int) : ∀ f s u, s ≤ (adv1 tk lim left limit f s u).1
  | 0, s, u => by simp [adv1]
  | f + 1, s, u => by
    rw [adv1]; split
    · split
      · simp
      · have := adv1_ge tk lim left limit f (s + 1) (wrap64 (u - (tk.getD s.toNat (0, 0)).2)); omega
    · simp
theorem minS_nonneg : ∀ (l : List (Int × Int)) (m : Int), (∀ p ∈ l, 0 ≤ p.1) → 0 ≤ m → 0 ≤ minS l m
  | [], m, _, h => h
  | q :: l, m, hl, h => by
    simp only [minS]
    exact minS_nonneg l _ (fun p hp => hl p (List.mem_cons_of_mem _ hp)) (by have := hl q (List.mem_cons_self ..); omega)
theorem cnA_nonneg (wins tk cn : List (Int × Int)) (lim : Bool) (D : Int) (k : Nat) (h : ∀ j, j < cn.length → 0 ≤ (cn.getD j (0, 0)).1) : ∀ p ∈ cnA wins tk cn lim D k, 0 ≤ p.1 := by
  intro p hp
  simp only [cnA, List.mem_map, List.mem_range] at hp
  obtain ⟨j, hj, rfl⟩ := hp
  have := h j hj
  split
  · have := adv1_ge tk lim (D - (wins.getD j (0, 0)).2) (wins.getD j (0, 0)).1 tk.length (cn.getD j (0, 0)).1 (cn.getD j (0, 0)).2
    unfold advR; omega
  · omega

theorem adv1_le (tk : List (Int × Int)) (lim : Bool) (left limit : Int) : ∀ (f : Nat) (s u : Int), s ≤ tk.length → (adv1 tk lim left limit f s u).1 ≤ tk.length
  | 0, s, u, h => by simpa [adv1] using h
  | f + 1, s, u, h => by
    rw [adv1]; split
    · split
      · simpa using h
      · exact adv1_le tk lim left limit f (s + 1) _ (by omega)
    · simpa using h
theorem cnA_bd (wins tk cn : List (Int × Int)) (lim : Bool) (D : Int) (k : Nat) (h : ∀ j, j < cn.length → 0 ≤ (cn.getD j (0, 0)).1 ∧ (cn.getD j (0, 0)).1 ≤ tk.length) : ∀ j, j < (cnA wins tk cn lim D k).length → 0 ≤ ((cnA wins tk cn lim D k).getD j (0, 0)).1 ∧ ((cnA wins tk cn lim D k).getD j (0, 0)).1 ≤ tk.length := by
  intro j hj
  rw [cnA_len] at hj
  have := h j hj
  have e : (cnA wins tk cn lim D k).getD j (0, 0) = if j < k then advR wins tk cn lim D j else cn.getD j (0, 0) := by simp [cnA, hj]
  rw [e]
  split
  · have a := adv1_ge tk lim (D - (wins.getD j (0, 0)).2) (wins.getD j (0, 0)).1 tk.length (cn.getD j (0, 0)).1 (cn.getD j (0, 0)).2
    have b := adv1_le tk lim (D - (wins.getD j (0, 0)).2) (wins.getD j (0, 0)).1 tk.length (cn.getD j (0, 0)).1 (cn.getD j (0, 0)).2 this.2
    unfold advR; exact ⟨by omega, b⟩
  · exact this

def shP (sh : Nat) (l : List (Int × Int)) : List (Int × Int) := l.map fun p => (p.1 - sh, p.2)
/-- How many entries are dropped, and by how much the base is moved. -/
def AdvC (tk : List (Int × Int)) (m c sh : Nat) : Prop := (c = 0 ∧ sh = 0) ∨ (c = m ∧ ((m < tk.length ∧ (sh : Int) = (tk.getD m (0, 0)).1) ∨ (tk.length = m ∧ sh = 0)))

/-- What a limited log counts stays small. -/
structure Calm (lim : Bool) (tk cn : List (Int × Int)) : Prop where
  t : lim = true → ∀ j, j < tk.length → 0 ≤ (tk.getD j (0, 0)).2 ∧ (tk.getD j (0, 0)).2 ≤ 1000000
  c : lim = true → ∀ j, j < cn.length → -1000000000000000 ≤ (cn.getD j (0, 0)).2 ∧ (cn.getD j (0, 0)).2 ≤ 1000000
  s : ∀ j, j < cn.length → 0 ≤ (cn.getD j (0, 0)).1 ∧ (cn.getD j (0, 0)).1 ≤ tk.length


/-- The box of an instant. -/
structure Box (w : World) (b N : Nat) : Prop where
  c0 : w.cell? ⟨b, 0, none⟩ = some (.int .u64 (ns N))
  c1 : w.cell? ⟨b, 1, none⟩ = some (.int .i64 (sc N))
  c2 : w.cell? ⟨b, 2, none⟩ = some (.pointer none)
theorem Box.later {w w' : World} {b N : Nat} (h : Box w b N) (hb : Below w.heap.size w w') : Box w' b N := ⟨cell_later hb h.c0, cell_later hb h.c1, cell_later hb h.c2⟩
theorem Box.setAt {w : World} {b N : Nat} (h : Box w b N) (g j : Nat) (u : Value) (hg : g ≠ b) : Box (w.setCell ⟨g, j, none⟩ u) b N := ⟨(set_off (ne_blk hg)).trans h.c0, (set_off (ne_blk hg)).trans h.c1, (set_off (ne_blk hg)).trans h.c2⟩

theorem flat_units (A : List (Int × Int)) (k : Nat) (s u x : Int) (h : k < A.length) : (flat (A.set k (s, u))).set (k * 2 + 1) (.int .i64 x) = flat (A.set k (s, x)) := by
  rw [flat_set2 _ k x (by rw [List.length_set]; exact h)]
  have : (A.set k (s, u)).getD k (0, 0) = (s, u) := by simp [List.getElem?_set_self h]
  rw [this, List.set_set]
theorem flat_start (A : List (Int × Int)) (k : Nat) (s u x : Int) (h : k < A.length) : (flat (A.set k (s, u))).set (k * 2) (.int .i64 x) = flat (A.set k (x, u)) := by
  rw [flat_set1 _ k x (by rw [List.length_set]; exact h)]
  have : (A.set k (s, u)).getD k (0, 0) = (s, u) := by simp [List.getElem?_set_self h]
  rw [this, List.set_set]

/-- What holds while the windows are advanced. -/
structure Inn (w wx : World) (B L o : Nat) (wv tv cv : Value) (base : Nat) (lim : Bool) (wins tk C : List (Int × Int)) (bw T : Nat) (lm ln : Int) : Prop where
  log : Log wx B L o wv tv cv base lim wins tk C
  fr : LogFr w wx L o tv tv cv
  box : Box wx w.heap.size T
  x1 : wx.cell? ⟨bw, 0, none⟩ = some (.int .i64 lm)
  x2 : wx.cell? ⟨bw, 1, none⟩ = some (.int .i64 ln)
theorem Inn.below {w wx wy : World} {B L o : Nat} {wv tv cv : Value} {base : Nat} {lim : Bool} {wins tk C : List (Int × Int)} {bw T : Nat} {lm ln : Int} (h : Inn w wx B L o wv tv cv base lim wins tk C bw T lm ln) (hb : Below wx.heap.size wx wy) : Inn w wy B L o wv tv cv base lim wins tk C bw T lm ln :=
  ⟨h.log.below hb, h.fr.below h.log.c.lt hb, h.box.later hb, cell_later hb h.x1, cell_later hb h.x2⟩
theorem Inn.setC {w wx : World} {B L o : Nat} {wv tv : Value} {base : Nat} {lim : Bool} {wins tk C C' : List (Int × Int)} {bw T : Nat} {lm ln : Int} {g n cap : Nat} (h : Inn w wx B L o wv tv (.slice (some ⟨g, 0, none⟩) n cap) base lim wins tk C bw T lm ln) (j : Nat) (u : Value) (hn : n = C.length) (hl : C'.length = C.length) (e : (flat C).set j u = flat C') (hgL : g ≠ L) (hgb : g ≠ w.heap.size) (hgw : g ≠ bw) :
    Inn w (wx.setCell ⟨g, j, none⟩ u) B L o wv tv (.slice (some ⟨g, 0, none⟩) n cap) base lim wins tk C' bw T lm ln :=
  ⟨h.log.setC j u hn hl e, h.fr.setRow g j u hgL (.inl rfl), h.box.setAt g j u hgb, (set_off (ne_blk hgw)).trans h.x1, (set_off (ne_blk hgw)).trans h.x2⟩

/-- The cells of the log that a round reads, at the window k that stands at (s, u). -/
theorem Inn.at {w wx : World} {B L o : Nat} {wv tv : Value} {base : Nat} {lim : Bool} {wins tk C : List (Int × Int)} {bw T : Nat} {lm ln : Int} {g n cap : Nat} (h : Inn w wx B L o wv tv (.slice (some ⟨g, 0, none⟩) n cap) base lim wins tk C bw T lm ln) (k : Nat) (hk : k < C.length) {s u : Int} (hC : C.getD k (0, 0) = (s, u)) :
    wx.cell? ⟨g, k * 2, none⟩ = some (.int .i64 s) ∧ wx.cell? ⟨g, k * 2 + 1, none⟩ = some (.int .i64 u) ∧ wx.frozen? ⟨g, k * 2, none⟩ = false ∧ wx.frozen? ⟨g, k * 2 + 1, none⟩ = false ∧ g < wx.heap.size ∧ L < wx.heap.size := by
  obtain ⟨g', cap', hcv', _, hg, hcc, hfc⟩ := Row.at h.log.rc (by omega)
  obtain rfl : g' = g := by simp at hcv'; exact hcv'.1.symm
  have a := hcc k hk
  rw [hC] at a
  exact ⟨a.1, a.2, hfc _, hfc _, hg, h.log.c.lt⟩

/-- The first k are moved by sh. -/
def shK (sh k : Nat) (l : List (Int × Int)) : List (Int × Int) := shP sh (l.take k) ++ l.drop k
theorem shK_zero (sh : Nat) (l : List (Int × Int)) : shK sh 0 l = l := by simp [shK, shP]
theorem shK_all (sh : Nat) (l : List (Int × Int)) (k : Nat) (h : l.length = k) : shK sh k l = shP sh l := by subst h; simp [shK]
theorem shK_len (sh k : Nat) (l : List (Int × Int)) : (shK sh k l).length = l.length := by simp [shK, shP]; omega
theorem shK_at (sh k : Nat) (l : List (Int × Int)) (h : k < l.length) : (shK sh k l).getD k (0, 0) = l.getD k (0, 0) := by
  have : (shP sh (l.take k)).length = k := by simp [shP]; omega
  rw [shK, List.getD_eq_getElem?_getD, List.getD_eq_getElem?_getD, List.getElem?_append_right (by omega), this]
  simp
theorem shK_set (sh k : Nat) (l : List (Int × Int)) (h : k < l.length) : (flat (shK sh k l)).set (k * 2) (.int .i64 ((l.getD k (0, 0)).1 - sh)) = flat (shK sh (k + 1) l) := by
  rw [flat_set1 _ k _ (by rw [shK_len]; exact h), shK_at sh k l h]
  congr 1
  have hl : (shP sh (l.take k)).length = k := by simp [shP]; omega
  simp only [shK]
  rw [List.set_append_right _ _ (by omega), hl, Nat.sub_self]
  have hd : l.drop k = l.getD k (0, 0) :: l.drop (k + 1) := by
    rw [List.drop_eq_getElem_cons h]; simp [h]
  have ht : l.take (k + 1) = l.take k ++ [l.getD k (0, 0)] := by
    rw [List.take_add_one]; simp [h]
  rw [hd, ht]
  simp [shP]

set_option maxRecDepth 100000 in
set_option maxHeartbeats 4000000 in
theorem advance_any (L o B : Nat) (wv tv cv : Value) (base : Nat) (lim : Bool) (wins tk cn : List (Int × Int)) (T : Nat) (w : World) (h : Log w B L o wv tv cv base lim wins tk cn)
    (l0 : wins.length ≤ 1000000) (l1 : tk.length ≤ 1000000) (l2 : cn.length = wins.length) (hB : B ≤ w.heap.size) (hT : T ≤ 4611686018427387904) (hb : base ≤ T)
    (hwl : ∀ j, j < wins.length → 0 ≤ (wins.getD j (0, 0)).2 ∧ (wins.getD j (0, 0)).2 ≤ 4611686018427387904) (hcalm : Calm lim tk cn) (hat : ∀ j, j < tk.length → 0 ≤ (tk.getD j (0, 0)).1 ∧ (tk.getD j (0, 0)).1 ≤ ((T - base : Nat) : Int)) :
    Calls Try.prog 42 #[.pointer (some ⟨L, o, none⟩), TM T] w fun e w' => e = .returned (.tuple #[]) ∧ ∃ (tv' : Value) (m c sh : Nat), (m : Int) = minS (cnA wins tk cn lim ((T - base : Nat) : Int) wins.length) tk.length ∧ AdvC tk m c sh ∧ Log w' B L o wv tv' cv (base + sh) lim wins (shP sh (tk.drop c)) (shP c (cnA wins tk cn lim ((T - base : Nat) : Int) wins.length)) ∧ LogFr w w' L o tv tv' cv := by
  obtain ⟨D, hD⟩ : ∃ D : Int, ((T - base : Nat) : Int) = D := ⟨_, rfl⟩
  have hD0 : 0 ≤ D ∧ D ≤ 4611686018427387904 := by omega
  have HS := hide (fun w1 => (show Calls Try.prog 38 #[TM T, TM base] w1 _ from by have := sub_any T base hb hT w1; rw [hD] at this; exact this))
  have HD := hide hD
  have HWl := hide hwl
  have HCa := hide hcalm
  rw [hD] at hat
  have HAt := hide hat
  clear hD hwl hcalm hat
  obtain ⟨wa, wcap, rfl⟩ := slice_form h.rw
  have hL := h.c.lt
  obtain ⟨W0, hW0⟩ : ∃ W0, W0 = w.alloc (Obj.cells #[Value.int IntKind.u64 ↑(ns T), Value.int IntKind.i64 ↑(sc T), Value.pointer none] 36) := ⟨_, rfl⟩
  have hbl0 : Below w.heap.size w W0 := by rw [hW0]; exact (Below.refl _ _).alloc (Nat.le_refl _) _
  have box0 : Box W0 w.heap.size T := by rw [hW0]; exact ⟨by simp, by simp, by simp⟩
  have log0 := h.below hbl0
  have fr0 := (LogFr.refl w L o tv cv).below hL hbl0
  have hnL : ¬ w.heap.size = L := by omega
  have c0 := log0.c.c0
  have HCl := hide (fun b (e : cv.ownBlock = some b) => (World.ownsRow.lt h.rc b e).2)
  have HTl := hide (fun b (e : tv.ownBlock = some b) => (World.ownsRow.lt h.rt b e).2)
  go_enter Try.func42, Try.ntmps42
  go_upto_region 1 with fail
  rw [← hW0]
  clear hW0 h
  go_wp2_with fail
  go_loopg [4, 5, 6, 7, 8, 9, 20] wins.length (fun g _ _ _ _ _ _ i wr => ∃ k : Nat, g = wins.length - k ∧ k ≤ wins.length ∧ i = .int .i64 k ∧ Log wr B L o (.slice wa wins.length wcap) tv cv base lim wins tk (cnA wins tk cn lim D k) ∧ LogFr w wr L o tv tv cv ∧ Box wr w.heap.size T)
  case atStart => exact ⟨0, by omega, by omega, rfl, by rw [cnA_zero]; exact log0, fr0, box0⟩
  case round =>
    obtain ⟨k, hgk, hk, rfl, logr, frr, boxr⟩ := hrel
    have HG := hide hgk
    clear hgk c0 log0 fr0 box0 hbl0
    by_cases hlt : k < wins.length
    · obtain ⟨gw, capw, hv, hgwB, hgw, hcw, hfw⟩ := Row.at logr.rw (by omega)
      simp only [Value.slice.injEq] at hv
      obtain ⟨rfl, -, rfl⟩ := hv
      have q1 := (hcw k hlt).1
      have q2 := (hcw k hlt).2
      have hwk := HWl.out k hlt
      have HR := hide (show advR wins tk cn lim D k = adv1 tk lim (D - (wins.getD k (0, 0)).2) (wins.getD k (0, 0)).1 tk.length (cn.getD k (0, 0)).1 (cn.getD k (0, 0)).2 from rfl)
      generalize wins.getD k (0, 0) = x at q1 q2 hwk HR
      obtain ⟨lm, ln⟩ := x
      simp only at q1 q2 hwk HR
      have hgwne : ¬ gw = wr.heap.size := by omega
      clear hcw hfw
      go_upto_region 4 with fail
      obtain ⟨W1, hW1⟩ : ∃ W1, W1 = wr.alloc (Obj.cells #[Value.int IntKind.i64 lm, Value.int IntKind.i64 ln] 66) := ⟨_, rfl⟩
      have hbl1 : Below wr.heap.size wr W1 := by rw [hW1]; exact (Below.refl _ _).alloc (Nat.le_refl _) _
      have v1 : W1.cell? ⟨wr.heap.size, 0, none⟩ = some (.int .i64 lm) := by rw [hW1]; simp
      have v2 : W1.cell? ⟨wr.heap.size, 1, none⟩ = some (.int .i64 ln) := by rw [hW1]; simp
      have log1 := logr.below hbl1
      have fr1 := frr.below logr.c.lt hbl1
      have box1 := boxr.later hbl1
      have hbw : wr.heap.size ≠ L := by have := logr.c.lt; omega
      have hbb : w.heap.size < wr.heap.size := World.block_lt_of_cell? _ _ boxr.c0
      rw [← hW1]
      generalize wr.heap.size = bw at *
      clear hW1 hbl1 logr frr boxr q1 q2
      obtain ⟨d0, d1, d2⟩ := box1
      have e1 := log1.c.c1
      have e2 := log1.c.c2
      have e3 := log1.c.c3
      have hwr : IntKind.i64.wrap (D - ln) = D - ln := by rw [IntKind.wrap_i64]; omega
      go_cut [6] (fun s wx => s = .int .i64 (D - ln) ∧ Below W1.heap.size W1 wx)
      case first =>
        go_region_held3 (fun w' => Below W1.heap.size W1 w' ∧ w'.cell? ⟨w.heap.size, 0, none⟩ = some (.int .u64 (ns T)) ∧ w'.cell? ⟨w.heap.size, 1, none⟩ = some (.int .i64 (sc T)) ∧ w'.cell? ⟨w.heap.size, 2, none⟩ = some (.pointer none) ∧ w'.cell? ⟨L, o + 1, none⟩ = some (.int .u64 (ns base)) ∧ w'.cell? ⟨L, o + 2, none⟩ = some (.int .i64 (sc base)) ∧ w'.cell? ⟨L, o + 3, none⟩ = some (.pointer none) ∧ w'.cell? ⟨bw, 1, none⟩ = some (.int .i64 ln))
          (first | (exact ⟨(Below.refl _ _).drew, by go_keep⟩) | (go_split_ands; refine ⟨?_, ?_, ?_, ?_, ?_, ?_, ?_, ?_⟩ <;> first | exact cell_later hb (by assumption) | exact Below.trans (by assumption) (hb.mono (Below.size (by assumption)))))
          (first | (go_at_call 38; refine (HS.out _).mono ?_; rintro e w1 ⟨rfl, hb⟩))
        go_wp2_with fail
        go_meet
        rename_i hHeld
        exact ⟨rfl, hHeld.1⟩
      case rest =>
        obtain ⟨rfl, hbd⟩ := hcut
        have log2 := log1.below hbd
        have fr2 := fr1.below log1.c.lt hbd
        have box2 : Box wc w.heap.size T := Box.later ⟨d0, d1, d2⟩ hbd
        have v1' := cell_later hbd v1
        have v2' := cell_later hbd v2
        clear d0 d1 d2 e1 e2 e3 hwr v1 v2 log1 fr1 hbd
        have hlen := cnA_len wins tk cn lim D k
        obtain ⟨gc, capc, hcv, hgcB, hgc, hcc, hfc⟩ := Row.at log2.rc (by omega)
        have hcl := log2.cL
        have hgcL : gc ≠ L := fun e => Apart.ne hcl (by rw [hcv, e]; rfl)
        have hbwc : bw < wc.heap.size := World.block_lt_of_cell? _ _ v1'
        have hgcw : gc < w.heap.size := HCl.out gc (by rw [hcv]; rfl)
        have hgw2 : gc ≠ bw := by omega
        have hgb2 : gc ≠ w.heap.size := by omega
        have hc5 := log2.c.c5
        rw [hcv, hlen] at hc5
        have HCv := hide hcv
        clear hcc hfc
        subst hcv
        have hk2 : k < cn.length := by omega
        have hca := HCa.out.s k hk2
        have hcb := fun e => HCa.out.c e k hk2
        have hat := cnA_at wins tk cn lim D k hk2
        have hset0 := hide (show cnA wins tk cn lim D k = (cnA wins tk cn lim D k).set k (cn.getD k (0, 0)) by
          apply List.ext_getElem?; intro i; rw [List.getElem?_set]
          by_cases c : k = i
          · subst c; rw [if_pos rfl, if_pos (by omega), ← hat]; simp [hlen, hk2]
          · rw [if_neg c])
        have hset1 := hide (cnA_set wins tk cn lim D k hk2)
        generalize cn.getD k (0, 0) = y at hca hcb HR hset0
        obtain ⟨s0, u0⟩ := y
        simp only at hca hcb HR
        obtain ⟨s0n, hs0n⟩ : ∃ n : Nat, s0 = n := ⟨s0.toNat, by omega⟩
        subst hs0n
        clear hat
        have inn2 : Inn w wc B L o (.slice (some ⟨gw, 0, none⟩) wins.length wcap) tv (.slice (some ⟨gc, 0, none⟩) (cnA wins tk cn lim D k).length capc) base lim wins tk ((cnA wins tk cn lim D k).set k ((s0n : Int), u0)) bw T lm ln := by
          rw [← hset0.out]; exact ⟨log2, fr2, box2, v1', v2'⟩
        clear log2 fr2 box2 v1' v2'
        generalize hA : cnA wins tk cn lim D k = A at *
        have HAk := hide hA
        clear hA
        generalize hRr : advR wins tk cn lim D k = R at *
        have HRr := hide hRr
        clear hRr
        have HL := hide hlen
        go_wp2_with fail
        go_loopg [8, 9] (tk.length - s0n) (fun g _ _ wx => ∃ (s f : Nat) (u : Int), g = tk.length - s ∧ s ≤ tk.length ∧ tk.length ≤ s + f ∧ Inn w wx B L o (.slice (some ⟨gw, 0, none⟩) wins.length wcap) tv (.slice (some ⟨gc, 0, none⟩) A.length capc) base lim wins tk (A.set k ((s : Int), u)) bw T lm ln ∧ adv1 tk lim (D - ln) lm f s u = R ∧ (lim = true → -1000000000000000 - (s : Int) * 1000000 ≤ u ∧ u ≤ 1000000))
        case atStart => exact ⟨s0n, tk.length, u0, rfl, by omega, by omega, inn2, HR.out.symm, fun e => by have := hcb e; omega⟩
        case round =>
          obtain ⟨s, f, u, hgk2, hs, hf, innx, hadv, hub⟩ := hrel
          have HG2 := hide hgk2
          have HAd := hide hadv
          have HUb := hide hub
          clear hgk2 hadv hub inn2 hc5
          have hkA : k < A.length := by omega
          have hgetk : (A.set k ((s : Int), u)).getD k (0, 0) = ((s : Int), u) := by simp [List.getElem?_set_self hkA]
          have HGk := hide hgetk
          have hkA2 : Hid (k < (A.set k ((s : Int), u)).length) := hide (by rw [List.length_set]; exact hkA)
          obtain ⟨y1, y2, yf1, yf2, m1, m2⟩ := innx.at k hkA2.out hgetk
          obtain ⟨ta, tcap, rfl⟩ := slice_form innx.log.rt
          have z4 := innx.log.c.c4
          clear hgetk
          have i1 : (0 : Int) ≤ (s : Int) := by omega
          by_cases hsn : s < tk.length
          · have i2 : (s : Int) < (tk.length : Int) := by omega
            go_wp2_with fail
            go_quiet (fail)
            obtain ⟨W2, hW2⟩ : ∃ W2, W2 = wr.drewN nq := ⟨_, rfl⟩
            have hb2 : Below wr.heap.size wr W2 := by rw [hW2]; exact below_drewN (Below.refl _ _) _
            rw [← hW2]
            have inn3 := innx.below hb2
            clear innx y1 y2 yf1 yf2 m1 m2 z4 hW2
            obtain ⟨y1, y2, yf1, yf2, m1, m2⟩ := inn3.at k hkA2.out HGk.out
            have z4 := inn3.log.c.c4
            obtain ⟨gt, capt, htv', _, hgt, htt, hft⟩ := Row.at inn3.log.rt (by omega)
            simp only [Value.slice.injEq] at htv'
            obtain ⟨rfl, -, rfl⟩ := htv'
            have t1 := (htt s hsn).1
            have t2 := (htt s hsn).2
            have htb := fun e => HCa.out.t e s hsn
            obtain ⟨f', rfl⟩ : ∃ f', f = f' + 1 := ⟨f - 1, by omega⟩
            have hnd := hide (adv1_stop (tk := tk) (lim := lim) (left := D - ln) (limit := lm) (s := (s : Int)) (u := u) (f := f') i2)
            have hmd := hide (adv1_more (tk := tk) (lim := lim) (left := D - ln) (limit := lm) (s := (s : Int)) (u := u) (f := f') i2)
            rw [Int.toNat_natCast] at hnd hmd
            generalize tk.getD s (0, 0) = e at t1 t2 htb hnd hmd
            obtain ⟨ea, eu⟩ := e
            simp only at t1 t2 htb hnd hmd
            clear htt hft
            go_upto_region 7 with fail
            go_region
            obtain ⟨W3, hW3⟩ : ∃ W3, W3 = (W2.alloc (Obj.cells #[Value.int IntKind.i64 ea, Value.int IntKind.i64 eu] 75)).drew := ⟨_, rfl⟩
            have hb3 : Below W2.heap.size W2 W3 := by rw [hW3]; exact ((Below.refl _ _).alloc (Nat.le_refl _) _).drew
            have r1 : W3.cell? ⟨W2.heap.size, 0, none⟩ = some (.int .i64 ea) := by rw [hW3]; simp
            have r2 : W3.cell? ⟨W2.heap.size, 1, none⟩ = some (.int .i64 eu) := by rw [hW3]; simp
            rw [← hW3]
            have inn4 := inn3.below hb3
            have hbe : W2.heap.size ≠ gc := by omega
            have hbe2 : W2.heap.size ≠ L := by omega
            generalize W2.heap.size = be at *
            clear inn3 y1 y2 yf1 yf2 m1 m2 z4 hW3 t1 t2 hb3 hb2 hgt
            obtain ⟨y1, y2, yf1, yf2, m1, m2⟩ := inn4.at k hkA2.out HGk.out
            have z6 := inn4.log.c.c6
            have z7 := inn4.log.c.c7
            have x1 := inn4.x1
            go_upto_region 8 with fail
            go_cut [9] (fun b wx => b = .bool (need lim (D - ln) lm u (ea, eu)) ∧ Below W3.heap.size W3 wx)
            case first =>
              by_cases hA1 : D - ln < ea
              · have hA2 : decide (D - ln < ea) = true := by simpa using hA1
                cases lim with
                | false =>
                  have hne := hide (show need false (D - ln) lm u (ea, eu) = true by simp [need, hA1])
                  go_quiet (fail)
                  go_wp2_with fail
                  go_meet
                  case rel => exact ⟨by rw [hne.out], below_drewN (Below.refl _ _) _⟩
                | true =>
                  have hu1 := HUb.out rfl
                  have hu2 := htb rfl
                  have hw1 : IntKind.i64.wrap u = u := by rw [IntKind.wrap_i64]; omega
                  have hw2 : IntKind.i64.wrap (u - eu) = u - eu := by rw [IntKind.wrap_i64]; omega
                  have hne := hide (show need true (D - ln) lm u (ea, eu) = decide (u - eu < lm) by simp [need, hA1])
                  go_quiet (fail)
                  go_wp2_with fail
                  go_meet
                  case rel => exact ⟨by rw [hne.out], below_drewN (Below.refl _ _) _⟩
              · have hA2 : decide (D - ln < ea) = false := by simpa using hA1
                have hne := hide (show need lim (D - ln) lm u (ea, eu) = false by simp [need, hA1])
                go_quiet (fail)
                go_wp2_with fail
                go_meet
                case rel => exact ⟨by rw [hne.out], below_drewN (Below.refl _ _) _⟩
            case rest =>
              obtain ⟨rfl, hbd⟩ := hcut
              have inn5 := inn4.below hbd
              have r2' := cell_later hbd r2
              clear inn4 y1 y2 yf1 yf2 m1 m2 z6 z7 x1 r1 r2 hbd
              obtain ⟨y1, y2, yf1, yf2, m1, m2⟩ := inn5.at k hkA2.out HGk.out
              cases hn : need lim (D - ln) lm u (ea, eu)
              · have hm2 := hide (hmd.out hn)
                have hn' : Hid (need lim (D - ln) lm u (ea, eu) = false) := hide hn
                clear hn
                go_upto_region 10 with fail
                go_region
                go_wp2_with fail
                go_roundg (tk.length - (s + 1))
                case measure => rw [HG2.out]; omega
                case rel =>
                  refine ⟨s + 1, f', wrap64 (u - eu), rfl, by omega, by omega, ?_, ?_, ?_⟩
                  · have in6 := inn5.setC (k * 2 + 1) (.int .i64 (wrap64 (u - eu))) (by simp) (by simp) (flat_units A k s u (wrap64 (u - eu)) hkA) hgcL hgb2 hgw2
                    have in7 := in6.setC (k * 2) (.int .i64 ((s : Int) + 1)) (by simp) (by simp) (flat_start A k s (wrap64 (u - eu)) ((s : Int) + 1) hkA) hgcL hgb2 hgw2
                    exact in7.below (Below.refl _ _).drew
                  · rw [← HAd.out, hm2.out]; congr 1
                  · intro hl
                    have a := HUb.out hl
                    have b := htb hl
                    have : wrap64 (u - eu) = u - eu := by unfold wrap64; omega
                    rw [this]; omega
              · have hm2 := hide (hnd.out hn)
                clear hn
                go_wp2_with fail
                go_roundg (wins.length - (k + 1))
                case measure => rw [HG.out]; omega
                case rel =>
                  refine ⟨k + 1, rfl, by omega, by go_num, ?_, inn5.fr, inn5.box⟩
                  rw [← hset1.out, ← HAd.out, hm2.out]
                  exact inn5.log
          · have i2 : ¬ (s : Int) < (tk.length : Int) := by omega
            have he := hide (adv1_end (tk := tk) (lim := lim) (left := D - ln) (limit := lm) (s := (s : Int)) (u := u) (f := f) i2)
            go_wp2_with fail
            go_quiet (fail)
            go_wp2_with fail
            go_roundg (wins.length - (k + 1))
            case measure => rw [HG.out]; omega
            case rel =>
              have inn3 := innx.below (below_drewN (Below.refl _ _) nq)
              refine ⟨k + 1, rfl, by omega, by go_num, ?_, inn3.fr, inn3.box⟩
              rw [← hset1.out, ← HAd.out, he.out]
              exact inn3.log
    · obtain rfl : k = wins.length := by omega
      have hlenF := cnA_len wins tk cn lim D wins.length
      have hnn := cnA_nonneg wins tk cn lim D wins.length (fun j hj => (HCa.out.s j hj).1)
      obtain ⟨m, hm⟩ : ∃ m : Nat, minS (cnA wins tk cn lim D wins.length) tk.length = m := ⟨(minS (cnA wins tk cn lim D wins.length) tk.length).toNat, by have := minS_nonneg _ (tk.length : Int) hnn (by omega); omega⟩
      have hmn : m ≤ tk.length := by have := minS_le (cnA wins tk cn lim D wins.length) tk.length; omega
      have HO := hide (oldest_any L o B _ _ _ base lim tk (cnA wins tk cn lim D wins.length) wr logr.c logr.rt logr.rc l1 (by omega))
      rw [hm] at HO
      have HM := hide hm
      clear hm hnn
      have HFb := hide (cnA_bd wins tk cn lim D wins.length HCa.out.s)
      generalize hF : cnA wins tk cn lim D wins.length = F at *
      have HF := hide hF
      clear hF
      go_wp2_with fail
      refine HO.out.mono ?_
      rintro e w1 ⟨rfl, hb1⟩
      have log1 := logr.below hb1
      have fr1 := frr.below logr.c.lt hb1
      clear logr frr boxr HO hb1
      have c4 := log1.c.c4
      obtain ⟨ta, tcap, rfl⟩ := slice_form log1.rt
      obtain ⟨hh, hhe⟩ : ∃ hh : Nat, hh = tk.length / 2 := ⟨_, rfl⟩
      have hq : (tk.length : Int) / 2 = (hh : Int) := by omega
      clear hhe
      by_cases hm0 : m = 0 ∨ m < hh
      · have hfin : Hid (shP 0 (tk.drop 0) = tk ∧ shP 0 F = F) := hide (by simp [shP])
        rcases hm0 with h0 | h0
        · have h0' : ((m : Int) == 0) = true := by rw [beq_iff_eq]; omega
          go_wp2_with fail
          exact bodyPost_ret (v := .tuple #[]) (by simp [results, Try.results42, go_sem]) rfl ⟨rfl, _, m, 0, 0, by rw [HD.out, HF.out, HM.out], .inl ⟨rfl, rfl⟩, by rw [HD.out, HF.out, hfin.out.1, hfin.out.2]; exact log1, fr1⟩
        · by_cases h00 : m = 0
          · have h0' : ((m : Int) == 0) = true := by rw [beq_iff_eq]; omega
            go_wp2_with fail
            exact bodyPost_ret (v := .tuple #[]) (by simp [results, Try.results42, go_sem]) rfl ⟨rfl, _, m, 0, 0, by rw [HD.out, HF.out, HM.out], .inl ⟨rfl, rfl⟩, by rw [HD.out, HF.out, hfin.out.1, hfin.out.2]; exact log1, fr1⟩
          · have h0' : ((m : Int) == 0) = false := by rw [beq_eq_false_iff_ne]; omega
            have h1' : (m : Int) < (hh : Int) := by omega
            go_wp2_with fail
            exact bodyPost_ret (v := .tuple #[]) (by simp [results, Try.results42, go_sem]) rfl ⟨rfl, _, m, 0, 0, by rw [HD.out, HF.out, HM.out], .inl ⟨rfl, rfl⟩, by rw [HD.out, HF.out, hfin.out.1, hfin.out.2]; exact log1, fr1⟩
      · have h0' : ((m : Int) == 0) = false := by rw [beq_eq_false_iff_ne]; omega
        have h1' : ¬ (m : Int) < (hh : Int) := by omega
        obtain ⟨gt, capt, htv', _, hgt, htt, hft⟩ := Row.at log1.rt (by omega)
        simp only [Value.slice.injEq] at htv'
        obtain ⟨rfl, -, rfl⟩ := htv'
        have hcapn : tk.length ≤ tcap := by
          rcases log1.rt.2 with ⟨h', _⟩ | ⟨g', cap', cur, h', _, _, hnc, _⟩
          · simp at h'
          · simp at h'; omega
        clear htt hft
        have hlt1 := log1.c.lt
        have i1 : (0 : Int) ≤ (m : Int) := by omega
        have i2 : (m : Int) ≤ (tk.length : Int) := by omega
        have i3 : (tk.length : Int) ≤ (tcap : Int) := by omega
        go_upto_region 15 with fail
        go_cut [11] (fun s wx => s = .int .i64 ((tk.length - m : Nat) : Int) ∧ w1.grownBy wx (some gt) ∧ Row wx B 75 (.slice (some ⟨gt, 0, none⟩) (tk.length - m) tcap) (tk.drop m))
        case first =>
          by_cases hmt : m < tk.length
          · have hne : ¬ tcap = m := by omega
            obtain ⟨w2, hrun, hgr, hrow⟩ := copy_row w1.drew B tk gt tcap m ⟨gt, m * 2, none⟩ (tcap - m) log1.rt hmn (fun _ => rfl)
            have hrun' := hrun 3
            go_region
            go_wp2_with fail
            go_meet
            case rel => exact ⟨rfl, ⟨hgr.os, hgr.tape, hgr.output, hgr.size, hgr.block⟩, hrow⟩
          · by_cases hne : tcap = m
            · subst hne
              obtain ⟨w2, hrun, hgr, hrow⟩ := copy_row w1.drew B tk gt tcap tcap ⟨gt, 0, none⟩ 0 log1.rt hmn (fun h => absurd h hmt)
              have e0 : tk.length - tcap = 0 := by omega
              have hrun' := hrun 3
              rw [e0] at hrun'
              have E0 := hide e0
              clear e0
              go_region
              go_wp2_with fail
              go_meet
              case rel => exact ⟨by first | rfl | (rw [E0.out]; rfl), ⟨hgr.os, hgr.tape, hgr.output, hgr.size, hgr.block⟩, hrow⟩
            · obtain ⟨w2, hrun, hgr, hrow⟩ := copy_row w1.drew B tk gt tcap m ⟨gt, m * 2, none⟩ (tcap - m) log1.rt hmn (fun _ => rfl)
              have hrun' := hrun 3
              go_region
              go_wp2_with fail
              go_meet
              case rel => exact ⟨rfl, ⟨hgr.os, hgr.tape, hgr.output, hgr.size, hgr.block⟩, hrow⟩
        case rest =>
          obtain ⟨rfl, hgr, hrow⟩ := hcut
          have led2 : Led w1 wc (.slice (some ⟨gt, 0, none⟩) tk.length tcap) (.slice (some ⟨gt, 0, none⟩) (tk.length - m) tcap) := ⟨hgr, .inl rfl⟩
          have lc2 := log1.c.led led2 (Apart.ne log1.tL)
          have log3 := log1.app led2 hrow
          have fr3 := (fr1.led led2 log1.c.lt (Apart.ne log1.tL)).setL (o + 4) (by omega) (by omega) (.slice (some ⟨gt, 0, none⟩) (tk.length - m) tcap)
          have k4 := lc2.c4
          have kf := lc2.fz (o + 4)
          clear c4 hgr hrow led2 lc2 log1 fr1
          obtain ⟨kp, hkp⟩ : ∃ kp, tk.length - m = kp := ⟨_, rfl⟩
          have hkl : (tk.drop m).length = kp := by rw [List.length_drop]; exact hkp
          rw [hkp] at log3 fr3
          rw [hkp]
          obtain ⟨X, hX⟩ : ∃ X, tk.drop m = X := ⟨_, rfl⟩
          rw [hX] at log3 hkl
          have hXb : ∀ j, j < kp → 0 ≤ (X.getD j (0, 0)).1 ∧ (X.getD j (0, 0)).1 ≤ D ∧ X.getD j (0, 0) = tk.getD (m + j) (0, 0) := by
            intro j hj
            have e : X.getD j (0, 0) = tk.getD (m + j) (0, 0) := by rw [← hX]; simp [List.getElem?_drop]
            have := HAt.out (m + j) (by omega)
            rw [e]; exact ⟨this.1, this.2, rfl⟩
          have HXb := hide hXb
          have HX := hide hX
          clear hXb hX
          have j1 : (0 : Int) ≤ (kp : Int) := by omega
          have j2 : (kp : Int) ≤ (tcap : Int) := by omega
          have HKp := hide hkp
          have HKl := hide hkl
          have hkpn : kp + m = tk.length := by omega
          have HKn := hide hkpn
          clear hkp hkl hkpn
          go_upto_region 17 with fail
          obtain ⟨W3, hW3⟩ : ∃ W3, W3 = wc.setCell ⟨L, o + 4, none⟩ (.slice (some ⟨gt, 0, none⟩) kp tcap) := ⟨_, rfl⟩
          rw [← hW3] at log3 fr3 ⊢
          clear hW3 k4 kf
          go_cut [141] (fun b wx => b = .bool (decide (0 < (kp : Int))) ∧ W3 = wx)
          case first =>
            go_wp2_with fail
            go_meet
            case rel => exact ⟨by simp, rfl⟩
          case rest =>
            obtain ⟨rfl, rfl⟩ := hcut
            go_upto_if 141 with fail
            go_cut [] (fun wx => ∃ sh : Nat, (0 < kp → (sh : Int) = (X.getD 0 (0, 0)).1) ∧ (kp = 0 → sh = 0) ∧ Log wx B L o (.slice wa wins.length wcap) (.slice (some ⟨gt, 0, none⟩) kp tcap) cv (base + sh) lim wins (shP sh X) F ∧ LogFr w wx L o (.slice (some ⟨gt, 0, none⟩) tk.length tcap) (.slice (some ⟨gt, 0, none⟩) kp tcap) cv)
            case first =>
              by_cases hk0 : 0 < kp
              · have hk0' : (0 : Int) < (kp : Int) := by omega
                have HK0 := hide hk0
                obtain ⟨sh, hsh⟩ : ∃ sh : Nat, (X.getD 0 (0, 0)).1 = sh := ⟨(X.getD 0 (0, 0)).1.toNat, by have := HXb.out 0 hk0; omega⟩
                have hshD : (sh : Int) ≤ D := by have := HXb.out 0 hk0; omega
                have hXl := HKl.out
                obtain ⟨g', cap', hv', _, hg3, ht3, hf3⟩ := Row.at log3.rt (by omega)
                simp only [Value.slice.injEq, Option.some.injEq, Addr.mk.injEq, and_true] at hv'
                obtain ⟨rfl, -, rfl⟩ := hv'
                have t1 := (ht3 0 (by omega)).1
                rw [hsh] at t1
                simp only [Nat.zero_mul] at t1
                have HSh := hide hsh
                have c4 := log3.c.c4
                have hgL : gt ≠ L := fun e => Apart.ne log3.tL (by rw [e]; rfl)
                have HXl := hide hXl
                clear ht3 hf3 hsh hXl
                go_wp2_with fail
                go_loopg [13, 154] kp (fun g _ i wr => ∃ k : Nat, g = kp - k ∧ k ≤ kp ∧ i = .int .i64 k ∧ Log wr B L o (.slice wa wins.length wcap) (.slice (some ⟨gt, 0, none⟩) kp tcap) cv base lim wins (shK sh k X) F ∧ LogFr w wr L o (.slice (some ⟨gt, 0, none⟩) tk.length tcap) (.slice (some ⟨gt, 0, none⟩) kp tcap) cv)
                case atStart => exact ⟨0, by omega, by omega, rfl, by rw [shK_zero]; exact log3, fr3⟩
                case round =>
                  obtain ⟨k, hgk, hk, rfl, logr, frr⟩ := hrel
                  have HG3 := hide hgk
                  clear hgk c4 t1 log3 fr3 hg3
                  by_cases hlt : k < kp
                  · have hlt' : (k : Int) < (kp : Int) := by omega
                    have HLt := hide hlt
                    have hkpb : kp ≤ 1000000 := by have := HKn.out; omega
                    have hkX : k < X.length := by have := HXl.out; omega
                    obtain ⟨g', cap', hv', _, hg3, ht3, hf3⟩ := Row.at logr.rt (by rw [shK_len]; omega)
                    simp only [Value.slice.injEq, Option.some.injEq, Addr.mk.injEq, and_true] at hv'
                    obtain ⟨rfl, -, rfl⟩ := hv'
                    have t1 := (ht3 k (by rw [shK_len]; exact hkX)).1
                    have yf := hf3 (k * 2)
                    rw [shK_at sh k X hkX] at t1
                    have hset := hide (shK_set sh k X hkX)
                    have hxb := HXb.out k hlt
                    have c4 := logr.c.c4
                    generalize X.getD k (0, 0) = e at t1 hset hxb
                    obtain ⟨ea, eu⟩ := e
                    simp only at t1 hset hxb
                    have hwr : IntKind.i64.wrap (ea - (sh : Int)) = ea - (sh : Int) := by rw [IntKind.wrap_i64]; omega
                    clear ht3 hf3
                    have HXb2 := hide hxb.2.2
                    clear hxb
                    have HkX := hide hkX
                    clear hkX
                    go_wp2_with fail
                    go_roundg (kp - (k + 1))
                    case measure => rw [HG3.out]; omega
                    case rel =>
                      refine ⟨k + 1, rfl, by have := HLt.out; omega, by go_num, ?_, frr.setRow gt (k * 2) _ hgL (.inr rfl)⟩
                      exact logr.setT (k * 2) (.int .i64 (ea - (sh : Int))) (by rw [shK_len]; exact HXl.out.symm) (by rw [shK_len, shK_len]) hset.out
                  · obtain rfl : k = kp := by omega
                    have HA := hide (fun wx => add_any base sh (by have := HD.out; omega) wx)
                    have c1 := logr.c.c1
                    have c2 := logr.c.c2
                    have c3 := logr.c.c3
                    have hlt3 := logr.c.lt
                    go_wp2_with fail
                    refine (HA.out _).mono ?_
                    rintro e w4 ⟨rfl, hb4⟩
                    have log5 := logr.below hb4
                    have fr5 := frr.below logr.c.lt hb4
                    clear logr frr c1 c2 c3 hb4 HA
                    have c1 := log5.c.c1
                    have c2 := log5.c.c2
                    have c3 := log5.c.c3
                    have fz1 := log5.c.fz (o + 1)
                    have fz2 := log5.c.fz (o + 2)
                    have fz3 := log5.c.fz (o + 3)
                    go_wp2_with fail
                    go_meet
                    case rel =>
                      refine ⟨sh, fun _ => HSh.out.symm, fun h => absurd h (by omega), ?_, fr5.setBase _ _ _⟩
                      have := log5.setBase (base + sh)
                      rw [shK_all sh X _ HXl.out] at this
                      exact this
              · have hk0' : ¬ (0 : Int) < (kp : Int) := by omega
                go_wp2_with fail
                go_meet
                case rel => exact ⟨0, fun h => absurd h hk0, fun _ => rfl, by simpa [shP] using log3, fr3⟩
            case rest =>
              obtain ⟨sh, hsh1, hsh2, log4, fr4⟩ := hcut
              have HS1 := hide hsh1
              have HS2 := hide hsh2
              clear log3 fr3 hsh1 hsh2
              obtain ⟨ca, ccap, rfl⟩ := slice_form log4.rc
              have c5 := log4.c.c5
              have hFl : F.length ≤ 1000000 := by omega
              go_wp2_with fail
              go_loopg [14, 184] F.length (fun g _ i wr => ∃ k : Nat, g = F.length - k ∧ k ≤ F.length ∧ i = .int .i64 k ∧ Log wr B L o (.slice wa wins.length wcap) (.slice (some ⟨gt, 0, none⟩) kp tcap) (.slice ca F.length ccap) (base + sh) lim wins (shP sh X) (shK m k F) ∧ LogFr w wr L o (.slice (some ⟨gt, 0, none⟩) tk.length tcap) (.slice (some ⟨gt, 0, none⟩) kp tcap) (.slice ca F.length ccap))
              case atStart => exact ⟨0, by omega, by omega, rfl, by rw [shK_zero]; exact log4, fr4⟩
              case round =>
                obtain ⟨k, hgk, hk, rfl, logr, frr⟩ := hrel
                have HG3 := hide hgk
                clear hgk c5 log4 fr4
                by_cases hlt : k < F.length
                · have hlt' : (k : Int) < (F.length : Int) := by omega
                  obtain ⟨g', cap', hv', _, hg3, ht3, hf3⟩ := Row.at logr.rc (by rw [shK_len]; omega)
                  simp only [Value.slice.injEq] at hv'
                  obtain ⟨rfl, -, rfl⟩ := hv'
                  have t1 := (ht3 k (by rw [shK_len]; exact hlt)).1
                  have yf := hf3 (k * 2)
                  rw [shK_at m k F hlt] at t1
                  have hset := hide (shK_set m k F hlt)
                  have hxb := HFb.out k hlt
                  have c5 := logr.c.c5
                  have hgL : g' ≠ L := fun e => Apart.ne logr.cL (by rw [e]; rfl)
                  generalize F.getD k (0, 0) = e at t1 hset hxb
                  obtain ⟨ea, eu⟩ := e
                  simp only at t1 hset hxb
                  have hwr : IntKind.i64.wrap (ea - (m : Int)) = ea - (m : Int) := by rw [IntKind.wrap_i64]; omega
                  clear ht3 hf3
                  go_wp2_with fail
                  go_roundg (F.length - (k + 1))
                  case measure => rw [HG3.out]; omega
                  case rel =>
                    refine ⟨k + 1, rfl, by omega, by go_num, ?_, frr.setRow g' (k * 2) _ hgL (.inl rfl)⟩
                    exact logr.setC (k * 2) (.int .i64 (ea - (m : Int))) (by rw [shK_len]) (by rw [shK_len, shK_len]) hset.out
                · obtain rfl : k = F.length := by omega
                  go_wp2_with fail
                  go_end0
                  refine ⟨rfl, _, m, m, sh, by rw [HD.out, HF.out, HM.out], ?_, ?_, frr⟩
                  · have hn := HKn.out
                    by_cases hk0 : 0 < kp
                    · exact .inr ⟨rfl, .inl ⟨by omega, by rw [HS1.out hk0, (HXb.out 0 hk0).2.2]; rfl⟩⟩
                    · exact .inr ⟨rfl, .inr ⟨by omega, HS2.out (by omega)⟩⟩
                  · rw [HD.out, HF.out, HX.out]
                    rw [shK_all m F _ rfl] at logr
                    exact logr
end Go.Proofs.Qxb6628726a
