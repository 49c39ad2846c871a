/-
  The arguments opened (seat b6628650a): a slice of strings, of ints, of float64s.
-/
import Derived.Test.Qxb6628650aPre
import Derived.ProofKit
import Derived.OpenShut
import Derived.Deep.Slices
import Derived.SliceStrings
import Derived.Laws.Cover2
namespace Go.Proofs.Qxb6628650a
open Go.ChangeShapes Go.WideShapes Go.ChangeAt Go.RowKit Go.ChangeMaps
set_option linter.unusedVariables false

theorem own : ownKnob Try.prog.godebug = none := by kernel_rfl
theorem laidOut : laidOutB Try.prog = true := by kernel_rfl

theorem add_at (b off i : Nat) : Addr.add ⟨b, off, none⟩ i = ⟨b, off + i, none⟩ := by
  unfold Addr.add
  by_cases h : i = 0 <;> simp [h]

theorem rd1_of {w : World} {a : Addr} {len cap : Nat} {f : Nat → Value} (h : ∀ i, i < len → w.cell? (a.add i) = some (f i)) : Rd1 w (.slice (some a) len cap) len f := by
  refine ⟨some a, cap, rfl, fun i hi => ?_⟩
  obtain ⟨b, off, spot⟩ := a
  have hs : spot = none := by
    have := World.cell?_spot (h 0 (by omega))
    unfold Addr.add at this
    simpa using this
  subst hs
  have := h i hi
  rw [add_at] at this
  exact ⟨b, off, rfl, World.block_lt_of_cell? _ _ this, this⟩

variable {H : Type} {enc : TypeId × Value → H} {w : World} {base : Nat} {spare : Nat → Bool} {held : Bool} {fuel : Nat} {a : Option Addr} {len cap : Nat} {x : DataW H × List MemPlace}

theorem open_labels (h : DataW.trod enc Try.prog w base spare held fuel 22 [.slice a len cap] = some x) : ∃ lab : Nat → ByteArray, Rd1 w (.slice a len cap) len (fun i => .string (lab i)) ∧ len ≤ 9223372036854775807 ∧ ∀ i, i < len → (lab i).size ≤ 9223372036854775807 := by
  rcases open_strings Try.underlying22 Try.underlying9 (by kernel_rfl) h with ⟨hcs, _⟩ | ⟨x', l, c, ss, hcs, _, hl, hm, hz, _, hcell, hsz⟩
  · simp at hcs
    obtain ⟨rfl, rfl, rfl⟩ := hcs
    exact ⟨fun _ => ByteArray.empty, ⟨none, 0, rfl, fun i hi => by omega⟩, by omega, fun i hi => by omega⟩
  · simp at hcs
    obtain ⟨rfl, rfl, rfl⟩ := hcs
    have hlz : len ≤ ss.length := by rw [hz]; split <;> omega
    unfold maxLen at hm hsz
    refine ⟨fun i => ss.getD i ByteArray.empty, rd1_of (fun i hi => hcell i (by omega)), by omega, fun i hi => ?_⟩
    have hi' : i < ss.length := by omega
    have := hsz (ss[i]) (List.getElem_mem hi')
    simpa [hi'] using this

theorem open_nodes (h : DataW.trod enc Try.prog w base spare held fuel 23 [.slice a len cap] = some x) : ∃ f : Nat → Int, Rd1 w (.slice a len cap) len (fun i => .int .i64 (f i)) ∧ len ≤ 9223372036854775807 := by
  rcases open_ints Try.underlying23 Try.underlying3 (by kernel_rfl) h with ⟨hcs, _⟩ | ⟨x', l, c, zs, hcs, _, hl, hm, hz, _, hcell, _⟩
  · simp at hcs
    obtain ⟨rfl, rfl, rfl⟩ := hcs
    exact ⟨fun _ => 0, ⟨none, 0, rfl, fun i hi => by omega⟩, by omega⟩
  · simp at hcs
    obtain ⟨rfl, rfl, rfl⟩ := hcs
    have hlz : len ≤ zs.length := by rw [hz]; split <;> omega
    unfold maxLen at hm
    exact ⟨fun i => zs.getD i 0, rd1_of (fun i hi => hcell i (by omega)), by omega⟩

theorem trod_float1 {n : Nat} {v : Value} {y : DataW H × List MemPlace} (h : DataW.trod enc Try.prog w base spare held n 41 [v] = some y) : ∃ b, v = .float .f64 b ∧ b < 18446744073709551616 := by
  cases n with
  | zero => simp [DataW.trod] at h
  | succ n =>
    simp only [DataW.trod, Try.underlying41] at h
    cases v <;> simp at h
    case float k b =>
      obtain ⟨⟨rfl, hw⟩, _⟩ := h
      exact ⟨b, rfl, by simpa [Lit.wf] using hw⟩

theorem open_kms (h : DataW.trod enc Try.prog w base spare held fuel 24 [.slice a len cap] = some x) : ∃ f : Nat → Nat, Rd1 w (.slice a len cap) len (fun i => .float .f64 (f i)) ∧ len ≤ 9223372036854775807 ∧ ∀ i, i < len → f i < 18446744073709551616 := by
  rcases Deep.open_slice1 Try.underlying24 (by kernel_rfl) h with ⟨hcs, _⟩ | ⟨x', l, c, m, n, V, D, Pl, hcs, _, hl, hm, hz, _, hcell⟩
  · simp at hcs
    obtain ⟨rfl, rfl, rfl⟩ := hcs
    exact ⟨fun _ => 0, ⟨none, 0, rfl, fun i hi => by omega⟩, by omega, fun i hi => by omega⟩
  · simp at hcs
    obtain ⟨rfl, rfl, rfl⟩ := hcs
    have hlz : len ≤ m := by rw [hz]; split <;> omega
    unfold maxLen at hm
    obtain ⟨f, hf⟩ := Deep.choose_lt (n := len) (p := fun i (b : Nat) => w.cell? (x'.add i) = some (.float .f64 b) ∧ b < 18446744073709551616) (fun i hi => by
      obtain ⟨h1, h2⟩ := hcell i (by omega)
      obtain ⟨b, e, hb⟩ := trod_float1 h2
      exact ⟨b, by rw [h1, e], hb⟩)
    exact ⟨f, rd1_of (fun i hi => (hf i hi).1), by omega, fun i hi => (hf i hi).2⟩
end Go.Proofs.Qxb6628650a
