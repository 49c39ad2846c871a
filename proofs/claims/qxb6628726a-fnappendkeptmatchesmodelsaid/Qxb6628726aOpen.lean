/-
  The arguments opened (seat b6628726a): slices of pairs, a slice of bytes.
-/
import Derived.Test.Qxb6628726aPrem
import Derived.ProofKit
import Derived.OpenShut
import Derived.Deep.Slices
namespace Go.Proofs.Qxb6628726a
open Go.ChangeShapes Go.WideShapes Go.ChangeAt Go.RowKit
open Go.Deep (open_slice choose_lt)
set_option linter.unusedVariables false

theorem own : ownKnob Try.prog.godebug = none := by kernel_rfl
theorem laidOut : laidOutB Try.prog = true := by kernel_rfl

theorem add_at (b off i : Nat) : Addr.add ⟨b, off, none⟩ i = ⟨b, off + i, none⟩ := by
  unfold Addr.add
  by_cases h : i = 0 <;> simp [h]
theorem add_pair (b off i k : Nat) : (Addr.add ⟨b, off, none⟩ (i * 2)).add k = ⟨b, off + i * 2 + k, none⟩ := by
  rw [add_at, add_at]

theorem getD_rangeMap (f : Nat → Int × Int) (n i : Nat) (h : i < n) : ((List.range n).map f).getD i (0, 0) = f i := by simp [h]

/-- A slice of structs of two int64 fields reads as a list of pairs. -/
theorem open_pairs {H : Type} {enc : TypeId × Value → H} {w : World} {base : Nat} {spare : Nat → Bool} {held : Bool} {t e : TypeId} {f0 f1 : Field} {fuel : Nat} {a : Option Addr} {len cap : Nat} {x : DataW H × List MemPlace}
    (ht : Try.prog.underlying t = some (.slice e)) (he : Try.prog.underlying e = some (.struct #[f0, f1])) (t0 : f0.type = 2) (o0 : f0.offset = 0) (t1 : f1.type = 2) (o1 : f1.offset = 1) (hC : Try.prog.cellsOf e = 2) (hc2 : Try.prog.cellsOf 2 = 1)
    (h : DataW.trod enc Try.prog w base spare held fuel t [.slice a len cap] = some x) : ∃ l : List (Int × Int), Rd2 w (.slice a len cap) l ∧ l.length ≤ 9223372036854775807 := by
  rcases open_slice ht h with ⟨hcs, _⟩ | ⟨a', len', cap', m, n, D, Pl, hcs, hb, hl, hm, hmm, _, hx⟩
  · simp at hcs
    obtain ⟨rfl, rfl, rfl⟩ := hcs
    exact ⟨[], ⟨none, 0, rfl, fun h => by simp at h⟩, by simp⟩
  · simp at hcs
    obtain ⟨rfl, rfl, rfl⟩ := hcs
    rw [hC] at hx
    have hlm : len ≤ m := by rw [hmm]; split <;> omega
    have key : ∀ i, i < len → ∃ p : Int × Int, w.cell? ((a'.add (i * 2)).add 0) = some (.int .i64 p.1) ∧ w.cell? ((a'.add (i * 2)).add 1) = some (.int .i64 p.2) := by
      intro i hi
      obtain ⟨cs', h1, h2⟩ := hx i (by omega)
      obtain ⟨_, hlen, hcell⟩ := World.cells?_some h1
      obtain ⟨y0, y1, n', _, _, g0, g1⟩ := trod_struct2 he h2
      rw [t0, o0, hc2] at g0
      rw [t1, o1, hc2] at g1
      obtain ⟨n0, e0, _, _⟩ := DataW.trod_int Try.underlying2 g0
      obtain ⟨n1, e1, _, _⟩ := DataW.trod_int Try.underlying2 g1
      refine ⟨(n0, n1), ?_, ?_⟩
      · rw [hcell 0 (by omega)]
        match cs', hlen with
        | [c0, c1], _ => simpa using e0
      · rw [hcell 1 (by omega)]
        match cs', hlen with
        | [c0, c1], _ => simpa using e1
    obtain ⟨f, hf⟩ := choose_lt key
    unfold maxLen at hm
    refine ⟨(List.range len).map f, ⟨some a', cap, by simp, fun hn => ?_⟩, by simp; omega⟩
    simp only [List.length_map, List.length_range] at hn ⊢
    obtain ⟨b, off, spot⟩ := a'
    have hs : spot = none := by
      have := (hf 0 hn).1
      have := World.cell?_spot this
      unfold Addr.add at this
      simpa using this
    subst hs
    refine ⟨b, off, rfl, ?_, fun i hi => ?_⟩
    · have := World.block_lt_of_cell? _ _ (hf 0 hn).1
      simpa [Addr.add] using this
    · have := hf i hi
      rw [add_pair, add_pair, Nat.add_zero] at this
      rw [getD_rangeMap f len i hi]
      exact this

/-- A slice of bytes. -/
theorem open_bytes {H : Type} {enc : TypeId × Value → H} {w : World} {base : Nat} {spare : Nat → Bool} {held : Bool} {fuel : Nat} {a : Option Addr} {len cap : Nat} {x : DataW H × List MemPlace}
    (h : DataW.trod enc Try.prog w base spare held fuel 24 [.slice a len cap] = some x) : ∃ l : List Int, Rd w (.slice a len cap) l.length 1 (bf l) ∧ l.length ≤ 9223372036854775807 := by
  rcases open_ints Try.underlying24 Try.underlying5 (by kernel_rfl) h with ⟨hcs, _⟩ | ⟨x', l, c, zs, hcs, _, hl, hm, hz, _, hcell, _⟩
  · simp at hcs
    obtain ⟨rfl, rfl, rfl⟩ := hcs
    exact ⟨[], ⟨none, 0, rfl, fun h => by simp at h⟩, by simp⟩
  · simp at hcs
    obtain ⟨rfl, rfl, rfl⟩ := hcs
    have hlz : len ≤ zs.length := by rw [hz]; split <;> omega
    have e : (zs.take len).length = len := by simp; omega
    unfold maxLen at hm
    refine ⟨zs.take len, ?_, by omega⟩
    rw [e]
    refine ⟨some x', cap, rfl, fun hn => ?_⟩
    obtain ⟨b, off, spot⟩ := x'
    have hs : spot = none := by
      have := World.cell?_spot (hcell 0 (by omega))
      unfold Addr.add at this
      simpa using this
    subst hs
    refine ⟨b, off, rfl, ?_, fun i hi => ?_⟩
    · have := World.block_lt_of_cell? _ _ (hcell 0 (by omega))
      simpa [Addr.add] using this
    · have := hcell i (by omega)
      rw [add_at] at this
      rw [this]
      have : i < len := by omega
      simp [this]
end Go.Proofs.Qxb6628726a
