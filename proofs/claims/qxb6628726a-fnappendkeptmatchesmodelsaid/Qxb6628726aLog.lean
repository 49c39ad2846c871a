/-
  THE LOG IN MEMORY (seat b6628726a): what a windowLog at (L, o) is; oldest, held.
-/
import Derived.Test.Qxb6628726aPrem
import Derived.Deep.DrawnRows
namespace Go.Proofs.Qxb6628726a
open Go.RowKit
set_option linter.unusedVariables false

def flat : List (Int × Int) → List Value
  | [] => []
  | p :: l => .int .i64 p.1 :: .int .i64 p.2 :: flat l
theorem flat_len : ∀ l, (flat l).length = l.length * 2
  | [] => rfl
  | p :: l => by simp [flat, flat_len l]; omega
theorem flat_app : ∀ l m, flat (l ++ m) = flat l ++ flat m
  | [], m => rfl
  | p :: l, m => by simp [flat, flat_app l m]
theorem flat_at : ∀ (l : List (Int × Int)) (i : Nat), i < l.length → (flat l)[i * 2]? = some (.int .i64 (l.getD i (0, 0)).1) ∧ (flat l)[i * 2 + 1]? = some (.int .i64 (l.getD i (0, 0)).2)
  | p :: l, 0, _ => by simp [flat]
  | p :: l, i + 1, h => by
    have := flat_at l i (by simpa using h)
    rw [show (i + 1) * 2 = i * 2 + 2 by omega]
    simpa [flat] using this
theorem flat_set1 : ∀ (l : List (Int × Int)) (i : Nat) (x : Int), i < l.length → (flat l).set (i * 2) (.int .i64 x) = flat (l.set i (x, (l.getD i (0, 0)).2))
  | p :: l, 0, x, _ => by simp [flat]
  | p :: l, i + 1, x, h => by
    have := flat_set1 l i x (by simpa using h)
    rw [show (i + 1) * 2 = i * 2 + 2 by omega]
    simp [flat]; simpa using this
theorem flat_set2 : ∀ (l : List (Int × Int)) (i : Nat) (x : Int), i < l.length → (flat l).set (i * 2 + 1) (.int .i64 x) = flat (l.set i ((l.getD i (0, 0)).1, x))
  | p :: l, 0, x, _ => by simp [flat]
  | p :: l, i + 1, x, h => by
    have := flat_set2 l i x (by simpa using h)
    rw [show (i + 1) * 2 = i * 2 + 2 by omega]
    simp [flat]; simpa using this

/-- A row of pairs that the call owns. -/
abbrev Row (w : World) (B : Nat) (e : TypeId) (v : Value) (l : List (Int × Int)) : Prop := w.ownsRow B e 2 v l.length (flat l)

theorem Row.at {w : World} {B : Nat} {e : TypeId} {v : Value} {l : List (Int × Int)} (h : Row w B e v l) (hn : 0 < l.length) :
    ∃ g cap, v = .slice (some ⟨g, 0, none⟩) l.length cap ∧ B ≤ g ∧ g < w.heap.size ∧ (∀ i, i < l.length → w.cell? ⟨g, i * 2, none⟩ = some (.int .i64 (l.getD i (0, 0)).1) ∧ w.cell? ⟨g, i * 2 + 1, none⟩ = some (.int .i64 (l.getD i (0, 0)).2)) ∧ (∀ j, w.frozen? ⟨g, j, none⟩ = false) := by
  obtain ⟨g, cap, rfl, hb, hlt⟩ := World.ownsRow.form h hn
  refine ⟨g, cap, rfl, hb, hlt, fun i hi => ?_, fun j => h.frozenAt j⟩
  have a := flat_at l i hi
  exact ⟨(h.cellAt (i * 2) (by omega)).trans a.1, (h.cellAt (i * 2 + 1) (by omega)).trans a.2⟩

structure LogS where
  wins : List (Int × Int)
  base : Nat
  tk : List (Int × Int)
  cn : List (Int × Int)
  lim : Bool

/-- What lies at (L, o): a windowLog whose fields are wv, the instant base, tv, cv, lim, 0. -/
structure LogC (w : World) (L o : Nat) (wv tv cv : Value) (base : Nat) (lim : Bool) : Prop where
  c0 : w.cell? ⟨L, o, none⟩ = some wv
  c1 : w.cell? ⟨L, o + 1, none⟩ = some (.int .u64 (ns base))
  c2 : w.cell? ⟨L, o + 2, none⟩ = some (.int .i64 (sc base))
  c3 : w.cell? ⟨L, o + 3, none⟩ = some (.pointer none)
  c4 : w.cell? ⟨L, o + 4, none⟩ = some tv
  c5 : w.cell? ⟨L, o + 5, none⟩ = some cv
  c6 : w.cell? ⟨L, o + 6, none⟩ = some (.bool lim)
  c7 : w.cell? ⟨L, o + 7, none⟩ = some (.int .i64 0)
  fz : ∀ j, w.frozen? ⟨L, j, none⟩ = false

theorem LogC.later {w w' : World} {L o : Nat} {wv tv cv : Value} {base : Nat} {lim : Bool} (h : LogC w L o wv tv cv base lim) (hc : ∀ j, w'.cell? ⟨L, j, none⟩ = w.cell? ⟨L, j, none⟩) (hf : ∀ j, w'.frozen? ⟨L, j, none⟩ = w.frozen? ⟨L, j, none⟩) : LogC w' L o wv tv cv base lim :=
  ⟨(hc _).trans h.c0, (hc _).trans h.c1, (hc _).trans h.c2, (hc _).trans h.c3, (hc _).trans h.c4, (hc _).trans h.c5, (hc _).trans h.c6, (hc _).trans h.c7, fun j => (hf j).trans (h.fz j)⟩
theorem LogC.lt {w : World} {L o : Nat} {wv tv cv : Value} {base : Nat} {lim : Bool} (h : LogC w L o wv tv cv base lim) : L < w.heap.size := World.block_lt_of_cell? w _ h.c0
theorem LogC.below {w w' : World} {L o : Nat} {wv tv cv : Value} {base : Nat} {lim : Bool} (h : LogC w L o wv tv cv base lim) (hb : Below w.heap.size w w') : LogC w' L o wv tv cv base lim :=
  h.later (fun j => hb.cell (p := ⟨L, j, none⟩) h.lt) (fun j => hb.frozen (p := ⟨L, j, none⟩) h.lt)
theorem Row.below {w w' : World} {B : Nat} {e : TypeId} {v : Value} {l : List (Int × Int)} (h : Row w B e v l) (hb : Below w.heap.size w w') : Row w' B e v l := by
  refine ⟨h.1, ?_⟩
  rcases h.2 with a | ⟨g, cap, cur, a, b, c, d⟩
  · exact .inl a
  · exact .inr ⟨g, cap, cur, a, b, (hb.block g (Array.getElem?_eq_some_iff.1 c).1).trans c, d⟩

theorem val_int {k : IntKind} {a b : Int} (h : a = b) : Value.int k a = .int k b := by rw [h]

/-- The least start. -/
def minS : List (Int × Int) → Int → Int
  | [], m => m
  | p :: l, m => minS l (min m p.1)
theorem minS_snoc : ∀ (l : List (Int × Int)) (p : Int × Int) (m : Int), minS (l ++ [p]) m = min (minS l m) p.1
  | [], p, m => rfl
  | q :: l, p, m => by simp only [List.cons_append, minS]; exact minS_snoc l p _
theorem minS_le : ∀ (l : List (Int × Int)) (m : Int), minS l m ≤ m
  | [], m => Int.le_refl _
  | q :: l, m => by simp only [minS]; have := minS_le l (min m q.1); omega
theorem take_snoc2 (l : List (Int × Int)) (k : Nat) (h : k < l.length) : l.take (k + 1) = l.take k ++ [l.getD k (0, 0)] := by
  rw [List.take_succ_eq_append_getElem h]; simp [h]

set_option maxRecDepth 100000 in
set_option maxHeartbeats 1000000 in
theorem oldest_any (L o B : Nat) (wv tv cv : Value) (base : Nat) (lim : Bool) (tk cn : List (Int × Int)) (w : World) (h : LogC w L o wv tv cv base lim) (ht : Row w B 75 tv tk) (hc : Row w B 77 cv cn) (l1 : tk.length ≤ 1000000) (l2 : cn.length ≤ 1000000) :
    Calls Try.prog 27 #[.pointer (some ⟨L, o, none⟩)] w fun e w' => e = .returned (.int .i64 (minS cn tk.length)) ∧ Below w.heap.size w w' := by
  obtain ⟨e0, e1, e2, e3, e4, e5, e6, e7, efz⟩ := h
  obtain ⟨ta, tcap, rfl⟩ : ∃ a cap, tv = .slice a tk.length cap := by
    rcases ht.2 with ⟨a, b⟩ | ⟨g, cap, _, a, _⟩
    · exact ⟨none, 0, by rw [b]; exact a⟩
    · exact ⟨_, cap, a⟩
  obtain ⟨ca, ccap, rfl⟩ : ∃ a cap, cv = .slice a cn.length cap := by
    rcases hc.2 with ⟨a, b⟩ | ⟨g, cap, _, a, _⟩
    · exact ⟨none, 0, by rw [b]; exact a⟩
    · exact ⟨_, cap, a⟩
  clear e0 e1 e2 e3 e6 e7
  go_enter Try.func27, Try.ntmps27
  go_wp2_with fail
  go_loopg [3, 5, 16] cn.length (fun g m _ i wr => ∃ k : Nat, g = cn.length - k ∧ k ≤ cn.length ∧ i = .int .i64 k ∧ m = .int .i64 (minS (cn.take k) tk.length) ∧ Below w.heap.size w wr)
  case atStart => exact ⟨0, by omega, by omega, rfl, rfl, Below.refl _ _⟩
  case round =>
    obtain ⟨k, hgk, hk, rfl, rfl, hbel⟩ := hrel
    have HG := hide hgk
    clear hgk
    by_cases hlt : k < cn.length
    · obtain ⟨g, cap, hv, hB, hg, hcells, hfz⟩ := Row.at hc (by omega)
      simp only [Value.slice.injEq] at hv
      obtain ⟨rfl, -, rfl⟩ := hv
      have HM := hide (show minS (cn.take (k + 1)) tk.length = min (minS (cn.take k) tk.length) (cn.getD k (0, 0)).1 by rw [take_snoc2 cn k hlt, minS_snoc])
      have hx1 : wr.cell? ⟨g, k * 2, none⟩ = some (.int .i64 (cn.getD k (0, 0)).1) := (hbel.cell (p := ⟨g, k * 2, none⟩) hg).trans (hcells k hlt).1
      have hx2 : wr.cell? ⟨g, k * 2 + 1, none⟩ = some (.int .i64 (cn.getD k (0, 0)).2) := (hbel.cell (p := ⟨g, k * 2 + 1, none⟩) hg).trans (hcells k hlt).2
      generalize cn.getD k (0, 0) = x at hx1 hx2 HM
      obtain ⟨x1, x2⟩ := x
      simp only at hx1 hx2
      generalize minS (cn.take k) tk.length = m at *
      have hgw : g < wr.heap.size := Nat.lt_of_lt_of_le hg hbel.size
      clear hcells e4 e5 efz hfz
      go_wp2_with fail
      all_goals
        go_roundg (cn.length - (k + 1))
        case measure => rw [HG.out]; omega
        case rel => exact ⟨k + 1, rfl, by omega, by go_num, val_int (by rw [HM.out]; omega), hbel.alloc hbel.size _⟩
    · obtain rfl : k = cn.length := by omega
      go_wp2_with fail
      go_ret
      exact ⟨ret_int (by rw [List.take_length]), hbel⟩

set_option maxRecDepth 100000 in
set_option maxHeartbeats 1000000 in
theorem held_any (L o B : Nat) (wv tv cv : Value) (base : Nat) (lim : Bool) (tk cn : List (Int × Int)) (w : World) (h : LogC w L o wv tv cv base lim) (ht : Row w B 75 tv tk) (hc : Row w B 77 cv cn) (l1 : tk.length ≤ 1000000) (l2 : cn.length ≤ 1000000) (hm : 0 ≤ minS cn tk.length) :
    Calls Try.prog 34 #[.pointer (some ⟨L, o, none⟩)] w fun e w' => e = .returned (.int .i64 ((tk.length : Int) - minS cn tk.length)) ∧ Below w.heap.size w w' := by
  have HO := hide (fun w1 (hb : Below w.heap.size w w1) => oldest_any L o B wv tv cv base lim tk cn w1 (h.below hb) (Row.below ht hb) (Row.below hc hb) l1 l2)
  obtain ⟨e0, e1, e2, e3, e4, e5, e6, e7, efz⟩ := h
  obtain ⟨ta, tcap, rfl⟩ : ∃ a cap, tv = .slice a tk.length cap := by
    rcases ht.2 with ⟨a, b⟩ | ⟨g, cap, _, a, _⟩
    · exact ⟨none, 0, by rw [b]; exact a⟩
    · exact ⟨_, cap, a⟩
  have hmx := minS_le cn tk.length
  clear e0 e1 e2 e3 e6 e7 e5 efz
  generalize minS cn tk.length = m at *
  have hwr : IntKind.i64.wrap ((tk.length : Int) - m) = (tk.length : Int) - m := by rw [IntKind.wrap_i64]; omega
  go_enter Try.func34, Try.ntmps34
  go_upto_region 1 with fail
  go_region_held3 (fun w' => Below w.heap.size w w' ∧ w'.cell? ⟨L, o + 4, none⟩ = some (.slice ta tk.length tcap))
    (first | (exact ⟨(Below.refl _ _).drew, by go_keep⟩) | (go_split_ands; refine ⟨?_, ?_⟩ <;> first | exact cell_later hb (by assumption) | exact Below.trans (by assumption) (hb.mono (Below.size (by assumption)))))
    (first | (go_at_call 27; refine (HO.out _ (by first | assumption | exact And.left (by assumption))).mono ?_; rintro e w1 ⟨rfl, hb⟩))
  go_wp2_with fail
  go_ret
  rename_i hHeld
  exact ⟨rfl, hHeld.1⟩
end Go.Proofs.Qxb6628726a
