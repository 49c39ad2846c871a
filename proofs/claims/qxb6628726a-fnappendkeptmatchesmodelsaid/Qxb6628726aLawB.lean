/-
  What two AppendKepts leave of each other (seat b6628726a).
-/
import Derived.Test.Qxb6628726aLawA
namespace Go.Proofs.Qxb6628726a
open Go.RowKit
set_option linter.unusedVariables false

/-- All blocks of a log lie from a on, below b. -/
structure Span (L : Nat) (s c : LS) (a b : Nat) : Prop where
  lo : a ≤ L
  hi : L < b
  u : ∀ k, InF s k → a ≤ k ∧ k < b
  c : ∀ k, InF c k → a ≤ k ∧ k < b
theorem Two.span {w : World} {B L : Nat} {s c : LS} (h : Two w B L s c) : Span L s c B w.heap.size :=
  ⟨h.u.BL, h.u.c.lt, fun k hk => ⟨InF.ge h.u hk, (InF.lt h.u hk).1⟩, fun k hk => ⟨InF.ge h.c hk, (InF.lt h.c hk).1⟩⟩

theorem Own.of_block {w w' : World} {B : Nat} {v : Value} {l : List Int} (h : Own w B v l) (hb : ∀ k, v.ownBlock = some k → w'.heap[k]? = w.heap[k]?) : Own w' B v l := by
  refine ⟨h.1, ?_⟩
  rcases h.2 with a | ⟨g, cap, cur, a, b, c, d⟩
  · exact .inl a
  · exact .inr ⟨g, cap, cur, a, b, (hb g (by rw [a]; rfl)).trans c, d⟩

/-- The bytes v lie from a on, below b. -/
def In (v : Value) (a b : Nat) : Prop := ∀ k, v.ownBlock = some k → a ≤ k ∧ k < b
theorem Own.isIn {w : World} {B : Nat} {v : Value} {l : List Int} (h : Own w B v l) : In v B w.heap.size := fun k hk => h.lt k hk

/-- The first AppendKept leaves the second's log and bytes alone. -/
theorem first_leaves {w w' : World} {L1 L2 n1 n2 n3 n4 : Nat} {s1 c1 s2 c2 : LS} {b1 b2 : Value} {l : List Int} (hn5 : n4 ≤ w.heap.size) (h2 : n2 ≤ n3) (h3 : n3 ≤ n4) (fr : Fr3 w w' L1 s1 c1 b1) (hs : w.heap.size ≤ w'.heap.size)
    (sp : Span L1 s1 c1 n3 n4) (i1 : In b1 n1 n2) (i2 : In b2 n2 n3) (o2 : Own w n2 b2 l) (t2 : Two w n4 L2 s2 c2) : Own w' n2 b2 l ∧ Two w' n4 L2 s2 c2 := by
  refine ⟨o2.of_block fun k hk => ?_, t2.keep ⟨hs, fun k hk hk' => ?_⟩⟩
  · have a := i2 k hk
    have lo := sp.lo
    refine fr k (by omega) (by omega) (fun h => ?_) (fun h => ?_) (fun h => ?_)
    · have := sp.u k h; omega
    · have := sp.c k h; omega
    · have := i1 k h; omega
  · have hi := sp.hi
    refine fr k hk' (by omega) (fun h => ?_) (fun h => ?_) (fun h => ?_)
    · have := sp.u k h; omega
    · have := sp.c k h; omega
    · have := i1 k h; omega

/-- The second AppendKept leaves the first's answer alone. -/
theorem second_leaves {w w' : World} {L2 n1 n2 n3 n4 n5 : Nat} {s2 c2 : LS} {b1 b2 v1 : Value} {l1 : List Int} (h2 : n2 ≤ n3) (h3 : n3 ≤ n4) (h4 : n4 ≤ n5) (fr : Fr3 w w' L2 s2 c2 b2)
    (sp : Span L2 s2 c2 n4 n5) (i1 : In b1 n1 n2) (i2 : In b2 n2 n3) (ly : v1.ownBlock = b1.ownBlock ∨ ∃ g, v1.ownBlock = some g ∧ n5 ≤ g) (o1 : Own w n1 v1 l1) : Own w' n1 v1 l1 := by
  refine o1.of_block fun k hk => ?_
  have lt := (o1.lt k hk).2
  have lo := sp.lo
  have hi := sp.hi
  rcases ly with e | ⟨g, e, hg⟩
  · have := i1 k (by rw [← e]; exact hk)
    refine fr k lt (by omega) (fun h => ?_) (fun h => ?_) (fun h => ?_)
    · have := sp.u k h; omega
    · have := sp.c k h; omega
    · have := i2 k h; omega
  · rw [e] at hk
    simp at hk
    refine fr k lt (by omega) (fun h => ?_) (fun h => ?_) (fun h => ?_)
    · have := sp.u k h; omega
    · have := sp.c k h; omega
    · have := i2 k h; omega
end Go.Proofs.Qxb6628726a
