/-
  keptModel (seat b6628726a): its flags in memory, and what they tell.
-/
import Derived.Test.Qxb6628726aModA
namespace Go.Proofs.Qxb6628726a
open Go.RowKit
set_option linter.unusedVariables false

/-- A row of flags at the head of block g. -/
abbrev Fl (w : World) (B g n : Nat) (p : Nat → Bool) : Prop := w.ownsRow B 4 1 (.slice (some ⟨g, 0, none⟩) n n) n ((List.range n).map fun i => .bool (p i))
theorem Fl.lt {w : World} {B g n : Nat} {p : Nat → Bool} (h : Fl w B g n p) : B ≤ g ∧ g < w.heap.size := World.ownsRow.lt h g rfl
theorem Fl.at_ {w : World} {B g n : Nat} {p : Nat → Bool} (h : Fl w B g n p) (i : Nat) (hi : i < n) : w.cell? ⟨g, i, none⟩ = some (.bool (p i)) := by
  rw [World.ownsRow.cellAt h i (by omega)]; simp [hi]
theorem Fl.fz {w : World} {B g n : Nat} {p : Nat → Bool} (h : Fl w B g n p) (i : Nat) : w.frozen? ⟨g, i, none⟩ = false := World.ownsRow.frozenAt h i
theorem Fl.of_block {w w' : World} {B g n : Nat} {p : Nat → Bool} (h : Fl w B g n p) (e : w'.heap[g]? = w.heap[g]?) : Fl w' B g n p := by
  refine ⟨h.1, ?_⟩
  rcases h.2 with ⟨a, _⟩ | ⟨g', cap', cur, a, b, c, d⟩
  · cases a
  · injection a with a1 _ a3
    injection a1 with a4
    injection a4 with a5 _ _
    subst a5
    exact .inr ⟨_, _, cur, by rw [a3], b, e.trans c, d⟩
theorem Fl.congr {w : World} {B g n : Nat} {p q : Nat → Bool} (h : Fl w B g n p) (e : ∀ i, i < n → p i = q i) : Fl w B g n q := by
  have : ((List.range n).map fun i => Value.bool (q i)) = (List.range n).map fun i => Value.bool (p i) := List.map_congr_left fun i hi => by rw [e i (by simpa using hi)]
  unfold Fl
  rw [this]
  exact h
theorem Fl.set {w : World} {B g n : Nat} {p : Nat → Bool} (h : Fl w B g n p) (j : Nat) : Fl (w.setCell ⟨g, j, none⟩ (.bool true)) B g n (fun i => if i = j then true else p i) := by
  have := (World.ownsRow.stored h j (.bool true)).1
  have e : ((List.range n).map fun i => Value.bool (if i = j then true else p i)) = ((List.range n).map fun i => Value.bool (p i)).set j (.bool true) := by
    apply List.ext_getElem?
    intro i
    rw [List.getElem?_set]
    by_cases c : j = i
    · subst c
      rw [if_pos rfl]
      by_cases d : j < n
      · simp [d]
      · simp [d]
    · rw [if_neg c]
      by_cases d : i < n
      · simp [d, Ne.symm c]
      · simp [d]
  unfold Fl
  rw [e]
  exact this
theorem Fl.made {w : World} {B g n : Nat} (h : w.ownsRow B 4 1 (.slice (some ⟨g, 0, none⟩) n n) n (madeCells #[Value.bool false] n).toList) : Fl w B g n (fun _ => false) := by
  have e : (madeCells #[Value.bool false] n).toList = (List.range n).map fun i => Value.bool false := by
    rw [toList_madeCells_one]
    apply List.ext_getElem?
    intro i
    by_cases d : i < n
    · simp [d]
    · simp [d]
  unfold Fl
  rw [← e]
  exact h
theorem Fl.rd {w : World} {B g n : Nat} {p : Nat → Bool} (h : Fl w B g n p) (m : Nat) (hp : ∀ i, i < n → p i = decide (m ≤ i)) : Rd w (.slice (some ⟨g, 0, none⟩) n n) n 1 (fun i => .bool (decide (m ≤ i))) := by
  refine ⟨_, n, rfl, fun _ => ⟨g, 0, rfl, h.lt.2, fun i hi => ?_⟩⟩
  rw [Nat.zero_add, h.at_ i (by omega), hp i (by omega)]

/-- All five rows of the model. -/
structure S2 (w0 w : World) (B gi gu gc ci cu cc fU fC n : Nat) (li lu lc : List Int) (p q : Nat → Bool) : Prop where
  r : R3 w B gi gu gc ci cu cc li lu lc
  u : Fl w B fU n p
  c : Fl w B fC n q
  ne : fU ≠ fC
  o : ∀ k, k = gi ∨ k = gu ∨ k = gc → k ≠ fU ∧ k ≠ fC
  b : Below B w0 w
theorem S2.setU {w0 w : World} {B gi gu gc ci cu cc fU fC n : Nat} {li lu lc : List Int} {p q : Nat → Bool} (h : S2 w0 w B gi gu gc ci cu cc fU fC n li lu lc p q) (j : Nat) : S2 w0 (w.setCell ⟨fU, j, none⟩ (.bool true)) B gi gu gc ci cu cc fU fC n li lu lc (fun i => if i = j then true else p i) q :=
  ⟨h.r.keep fun k hk => heap_setCell_other w ⟨fU, j, none⟩ k _ (h.o k hk).1, h.u.set j, h.c.of_block (heap_setCell_other w ⟨fU, j, none⟩ fC _ (Ne.symm h.ne)), h.ne, h.o, h.b.setCell h.u.lt.1 _⟩
theorem S2.setC {w0 w : World} {B gi gu gc ci cu cc fU fC n : Nat} {li lu lc : List Int} {p q : Nat → Bool} (h : S2 w0 w B gi gu gc ci cu cc fU fC n li lu lc p q) (j : Nat) : S2 w0 (w.setCell ⟨fC, j, none⟩ (.bool true)) B gi gu gc ci cu cc fU fC n li lu lc p (fun i => if i = j then true else q i) :=
  ⟨h.r.keep fun k hk => heap_setCell_other w ⟨fC, j, none⟩ k _ (h.o k hk).2, h.u.of_block (heap_setCell_other w ⟨fC, j, none⟩ fU _ h.ne), h.c.set j, h.ne, h.o, h.b.setCell h.c.lt.1 _⟩
theorem S2.congr {w0 w : World} {B gi gu gc ci cu cc fU fC n : Nat} {li lu lc : List Int} {p q p' q' : Nat → Bool} (h : S2 w0 w B gi gu gc ci cu cc fU fC n li lu lc p q) (e1 : ∀ i, i < n → p i = p' i) (e2 : ∀ i, i < n → q i = q' i) : S2 w0 w B gi gu gc ci cu cc fU fC n li lu lc p' q' :=
  ⟨h.r, h.u.congr e1, h.c.congr e2, h.ne, h.o, h.b⟩

/-- The flags, when the entries from a on have been looked at. -/
def fl (a o : Nat) (i : Nat) : Bool := decide (a ≤ i) && decide (o ≤ i)
theorem fl_set {n k o j : Nat} (hk : k < n) (hj : j = n - (k + 1)) (ho : o ≤ j) (i : Nat) : (if i = j then true else fl (n - k) o i) = fl (n - (k + 1)) o i := by
  unfold fl
  by_cases c : i = j
  · rw [if_pos c, decide_eq_true (by omega), decide_eq_true (by omega)]; rfl
  · rw [if_neg c]
    congr 1
    rw [decide_eq_decide]
    omega
theorem fl_not {n k o j : Nat} (hk : k < n) (hj : j = n - (k + 1)) (ho : ¬ o ≤ j) (i : Nat) : fl (n - k) o i = fl (n - (k + 1)) o i := by
  unfold fl
  by_cases c : i = j
  · rw [decide_eq_false (p := o ≤ i) (by omega)]; simp
  · congr 1
    rw [decide_eq_decide]
    omega
theorem fl_none (n o i : Nat) (h : i < n) : false = fl (n - 0) o i := by
  unfold fl; rw [decide_eq_false (by omega)]; rfl
theorem fl_all (n o i : Nat) : fl (n - n) o i = decide (o ≤ i) := by
  unfold fl; rw [decide_eq_true (by omega)]; rfl

/-- What the backward loop is told. -/
structure MF (uw cw sr : List (Int × Int)) (t : Int) (n oU oC : Nat) (af : Nat → Int) : Prop where
  len : n = (kI sr sr.length).length
  ou : oU ≤ n
  oc : oC ≤ n
  hu : ∀ j, j < n → (oU ≤ j ↔ ∃ i, i < uw.length ∧ t - (kI sr sr.length).getD j 0 < (uw.getD i (0, 0)).2)
  hc : ∀ j, j < n → (oC ≤ j ↔ ∃ i, i < cw.length ∧ (t - (kI sr sr.length).getD j 0 < (cw.getD i (0, 0)).2 ∧ af (j + 1) < (cw.getD i (0, 0)).1))
  st : ∀ j, j < n → af j = (kC sr sr.length).getD j 0 + af (j + 1)
  en : af n = 0
  bd : ∀ j, 0 ≤ af j ∧ af j ≤ 1000000000000
  vl : ∀ j, j < n → 0 ≤ (kC sr sr.length).getD j 0 ∧ (kC sr sr.length).getD j 0 ≤ 1000000
  ins : ∀ j, j < n → 0 ≤ (kI sr sr.length).getD j 0 ∧ (kI sr sr.length).getD j 0 ≤ t
  mo : ∀ j, j + 1 < n → (kI sr sr.length).getD j 0 ≤ (kI sr sr.length).getD (j + 1) 0

theorem getD_fst (M : List (Int × Int)) (j : Nat) : (M.map Prod.fst).getD j 0 = (M.getD j (0, 0)).1 := by
  by_cases c : j < M.length
  · simp [c]
  · simp [List.getElem?_eq_none (show M.length ≤ j by omega)]
theorem getD_snd (M : List (Int × Int)) (j : Nat) : (M.map Prod.snd).getD j 0 = (M.getD j (0, 0)).2 := by
  by_cases c : j < M.length
  · simp [c]
  · simp [List.getElem?_eq_none (show M.length ≤ j by omega)]

theorem mf_of {uw cw sr : List (Int × Int)} {t : Int} (h : Prem uw cw sr t) (hmo : ∀ i j, i ≤ j → j < sr.length → (sr.getD i (0, 0)).1 ≤ (sr.getD j (0, 0)).1) (hn : sr.length ≤ 100000) :
    MF uw cw sr t (mg Prod.snd sr sr.length).length (oldP (mg Prod.snd sr sr.length) uw false t).toNat (oldP (mg (fun _ => 1) sr sr.length) cw true t).toNat (suf (mg (fun _ => 1) sr sr.length)) := by
  obtain ⟨o1, o2, o3⟩ := mg_ones sr sr.length (by omega)
  have kU := mg_keyed Prod.snd sr hmo sr.length (Nat.le_refl _)
  have kK := mg_keyed (fun _ => 1) sr hmo sr.length (Nat.le_refl _)
  have rU : Rise (mg Prod.snd sr sr.length) false := ⟨kU.inc, fun h => by cases h⟩
  have rC : Rise (mg (fun _ => 1) sr sr.length) true := ⟨kK.inc, fun _ j hj => by have := o1 j hj; omega⟩
  have bU := oldP_bd (mg Prod.snd sr sr.length) uw false t
  have bC := oldP_bd (mg (fun _ => 1) sr sr.length) cw true t
  have hl := mg_len (fun _ => 1) Prod.snd sr sr.length
  have kf : ∀ j, (kI sr sr.length).getD j 0 = ((mg (fun _ => 1) sr sr.length).getD j (0, 0)).1 := fun j => by
    unfold kI; rw [mg_fst Prod.snd (fun _ => 1) sr sr.length, getD_fst]
  refine ⟨by simp [kI], by omega, by omega, fun j hj => ?_, fun j hj => ?_, fun j hj => ?_, ?_, fun j => ?_, fun j hj => ?_, fun j hj => ?_, fun j hj => ?_⟩
  · have := oldP_le rU uw t j hj
    rw [show (oldP (mg Prod.snd sr sr.length) uw false t).toNat ≤ j ↔ oldP (mg Prod.snd sr sr.length) uw false t ≤ j by omega, this]
    unfold kI
    rw [getD_fst]
    constructor
    · rintro ⟨i, hi, hp⟩
      exact ⟨i, hi, by simpa [ndP] using hp⟩
    · rintro ⟨i, hi, hp⟩
      exact ⟨i, hi, by simpa [ndP] using hp⟩
  · have := oldP_le rC cw t j (by omega)
    rw [show (oldP (mg (fun _ => 1) sr sr.length) cw true t).toNat ≤ j ↔ oldP (mg (fun _ => 1) sr sr.length) cw true t ≤ j by omega, this, kf]
    constructor
    · rintro ⟨i, hi, hp⟩
      exact ⟨i, hi, by simpa [ndP] using hp⟩
    · rintro ⟨i, hi, hp⟩
      exact ⟨i, hi, by simpa [ndP] using hp⟩
  · unfold kC; rw [getD_snd]; exact suf_step _ j (by omega)
  · exact suf_end _ _ (by omega)
  · have := suf_bd (mg (fun _ => 1) sr sr.length) (fun j hj => by have := o1 j hj; omega) _ j rfl
    have := kK.le
    omega
  · unfold kC; rw [getD_snd]; have := o1 j (by omega); omega
  · rw [kf]
    obtain ⟨i, hi, e⟩ := kK.mem j (by omega)
    rw [e]; exact h.s0 i hi
  · rw [kf, kf]; have := kK.inc j (by omega); omega

/-- The model's answer is AppendKept's. -/
theorem keptP_model {uw cw sr : List (Int × Int)} {t : Nat} (l : List Int) (n oU oC : Nat) (hn : n = (mg Prod.snd sr sr.length).length) (hU : oU = (oldP (mg Prod.snd sr sr.length) uw false t).toNat) (hC : oC = (oldP (mg (fun _ => 1) sr sr.length) cw true t).toNat) :
    keptP l uw cw sr ((0 : Nat) : Int) t = if (n - oU) + (n - oC) = 0 then l else l ++ hdr t ++ sect (instM (mg Prod.snd sr sr.length) 0) (fun j => ((mg Prod.snd sr sr.length).getD j (0, 0)).2) t oU (n - oU) ++ sect (instM (mg (fun _ => 1) sr sr.length) 0) (fun j => ((mg (fun _ => 1) sr sr.length).getD j (0, 0)).2) t oC (n - oC) := by
  have hl := mg_len (fun _ => 1) Prod.snd sr sr.length
  have key : ∀ (wins : List (Int × Int)) (f : Int × Int → Int) (lim : Bool), (mg f sr sr.length).length = n → (knP (Mw wins f sr) wins lim t = ((n - (oldP (mg f sr sr.length) wins lim t).toNat : Nat) : Int)) ∧ sectP (Mw wins f sr) wins lim t = sect (instM (mg f sr sr.length) 0) (fun j => ((mg f sr sr.length).getD j (0, 0)).2) t (oldP (mg f sr sr.length) wins lim t).toNat (n - (oldP (mg f sr sr.length) wins lim t).toNat) := by
    intro wins f lim hlen
    unfold Mw
    split
    · rename_i c
      have hw : wins = [] := List.eq_nil_of_length_eq_zero c
      subst hw
      have e1 : oldP (mg f sr sr.length) [] lim t = n := by unfold oldP; simp [minS, hlen]
      rw [e1]
      refine ⟨?_, ?_⟩
      · unfold knP oldP; simp [minS]
      · unfold sectP oldP sect
        simp [minS, body]
    · have bd := oldP_bd (mg f sr sr.length) wins lim t
      refine ⟨?_, ?_⟩
      · unfold knP; omega
      · unfold sectP; rw [hlen]; rfl
  obtain ⟨a1, a2⟩ := key uw Prod.snd false hn.symm
  obtain ⟨b1, b2⟩ := key cw (fun _ => 1) true (by omega)
  unfold keptP
  rw [a1, b1, a2, b2, ← hU, ← hC]
  have e : ((t : Int) + ((0 : Nat) : Int)).toNat = t := by omega
  rw [e]
  by_cases c : (n - oU) + (n - oC) = 0
  · rw [if_pos c, if_pos (by omega)]
  · rw [if_neg c, if_neg (by omega)]; simp only [List.append_assoc]
end Go.Proofs.Qxb6628726a
