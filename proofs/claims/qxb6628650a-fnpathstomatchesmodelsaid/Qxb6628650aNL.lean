/-
  zzNodeLess (seat b6628650a): the model's order of the nodes is the program's.
-/
import Derived.Test.Qxb6628650aNB
import Derived.Test.Qxb6628650aPre
import Derived.Laws.Strings
namespace Go.Proofs.Qxb6628650a
open Go.RowKit
set_option linter.unusedVariables false
attribute [local go_sem ↓] Go.wp_at_zero Go.wp_at_succ

theorem less_drop : ∀ (k : Nat) (x y : List UInt8), x.take k = y.take k → k ≤ x.length → k ≤ y.length → Op.bytesLess x y = Op.bytesLess (x.drop k) (y.drop k) ∧ (x == y) = (x.drop k == y.drop k)
  | 0, x, y, _, _, _ => ⟨rfl, rfl⟩
  | k + 1, x, y, h, hx, hy => by
    match x, y, hx, hy with
    | a :: x, b :: y, hx, hy =>
      simp only [List.take_succ_cons, List.cons.injEq] at h
      obtain ⟨rfl, h⟩ := h
      obtain ⟨h1, h2⟩ := less_drop k x y h (by simpa using hx) (by simpa using hy)
      constructor
      · rw [List.drop_succ_cons, List.drop_succ_cons, ← h1]
        show (decide (a < a) || (a == a && Op.bytesLess x y)) = _
        simp
      · rw [List.drop_succ_cons, List.drop_succ_cons, ← h2]
        show (a == a && x == y) = _
        simp

theorem sz_len (s : ByteArray) : s.toList.length = s.size := by rw [ByteArray.toList_eq]; simp
theorem at_list (s : ByteArray) (k : Nat) (h : k < s.size) : s.toList[k]? = some s[k] := by
  rw [ByteArray.toList_eq]
  have : k < s.data.size := h
  rw [Array.getElem?_toList, Array.getElem?_eq_getElem this]
  rfl

/-- The first k bytes are the same. -/
def Agree (x y : ByteArray) (k : Nat) : Prop := x.toList.take k = y.toList.take k ∧ k ≤ x.size ∧ k ≤ y.size
theorem Agree.start (x y : ByteArray) : Agree x y 0 := ⟨by simp, by omega, by omega⟩
theorem Agree.step {x y : ByteArray} {k : Nat} (h : Agree x y k) (hx : k < x.size) (hy : k < y.size) (e : x[k].toNat = y[k].toNat) : Agree x y (k + 1) := by
  refine ⟨?_, by omega, by omega⟩
  rw [List.take_add_one, List.take_add_one, h.1, at_list x k hx, at_list y k hy, UInt8.toNat_inj.1 e]
theorem drop_at {s : ByteArray} {k : Nat} (h : k < s.size) : s.toList.drop k = s[k] :: s.toList.drop (k + 1) := by
  have hl : k < s.toList.length := by rw [sz_len]; exact h
  have e := at_list s k h
  rw [List.getElem?_eq_getElem hl] at e
  rw [List.drop_eq_getElem_cons hl, Option.some.inj e]
theorem drop_end {s : ByteArray} {k : Nat} (h : s.size ≤ k) : s.toList.drop k = [] := by
  rw [List.drop_eq_nil_iff, sz_len]; exact h
/-- Two bytes differ. -/
theorem Agree.differ {lab : Nat → ByteArray} {a b k : Nat} (h : Agree (lab a) (lab b) k) (hx : k < (lab a).size) (hy : k < (lab b).size) (e : (lab a)[k].toNat ≠ (lab b)[k].toNat) : nb lab a b = decide ((lab a)[k].toNat < (lab b)[k].toNat) := by
  obtain ⟨h1, h2⟩ := less_drop k _ _ h.1 (by rw [sz_len]; omega) (by rw [sz_len]; omega)
  rw [drop_at hx, drop_at hy] at h1 h2
  have ne : ((lab a)[k] == (lab b)[k]) = false := by
    rw [beq_eq_false_iff_ne]; intro h; exact e (by rw [h])
  have l1 : sLt (lab a) (lab b) = decide ((lab a)[k].toNat < (lab b)[k].toNat) := by
    unfold sLt
    rw [h1]
    show (decide ((lab a)[k] < (lab b)[k]) || ((lab a)[k] == (lab b)[k] && _)) = _
    rw [ne]; simp; rfl
  have l2 : sEq (lab a) (lab b) = false := by
    unfold sEq
    rw [h2]
    show ((lab a)[k] == (lab b)[k] && _) = _
    rw [ne]; rfl
  unfold nb
  rw [l1, l2]; simp
/-- One label is the other's beginning. -/
theorem Agree.short {lab : Nat → ByteArray} {a b k : Nat} (h : Agree (lab a) (lab b) k) (hk : ¬ (k < (lab a).size ∧ k < (lab b).size)) (e : (lab a).size ≠ (lab b).size) : nb lab a b = decide ((lab a).size < (lab b).size) := by
  obtain ⟨h1, h2⟩ := less_drop k _ _ h.1 (by rw [sz_len]; exact h.2.1) (by rw [sz_len]; exact h.2.2)
  have := h.2.1
  have := h.2.2
  by_cases c : (lab a).size < (lab b).size
  · rw [drop_end (s := lab a) (by omega), drop_at (s := lab b) (by omega)] at h1
    have l1 : sLt (lab a) (lab b) = true := by unfold sLt; rw [h1]; rfl
    unfold nb
    rw [l1, decide_eq_true c]; rfl
  · rw [drop_end (s := lab b) (by omega), drop_at (s := lab a) (by omega)] at h1 h2
    have l1 : sLt (lab a) (lab b) = false := by unfold sLt; rw [h1]; rfl
    have l2 : sEq (lab a) (lab b) = false := by unfold sEq; rw [h2]; rfl
    unfold nb
    rw [l1, l2, decide_eq_false c]; rfl
/-- The labels are the same. -/
theorem Agree.same {lab : Nat → ByteArray} {a b k : Nat} (h : Agree (lab a) (lab b) k) (hk : ¬ (k < (lab a).size ∧ k < (lab b).size)) (e : (lab a).size = (lab b).size) : nb lab a b = decide (a < b) := by
  obtain ⟨h1, h2⟩ := less_drop k _ _ h.1 (by rw [sz_len]; exact h.2.1) (by rw [sz_len]; exact h.2.2)
  rw [drop_end (s := lab a) (by omega), drop_end (s := lab b) (by omega)] at h1 h2
  have l1 : sLt (lab a) (lab b) = false := by unfold sLt; rw [h1]; rfl
  have l2 : sEq (lab a) (lab b) = true := by unfold sEq; rw [h2]; rfl
  unfold nb
  rw [l1, l2]; simp

set_option maxRecDepth 100000 in
set_option maxHeartbeats 2000000 in
theorem nless_any (v0 : Value) (n : Nat) (lab : Nat → ByteArray) (a b : Nat) (w : World) (h0 : Rd1 w v0 n (fun i => .string (lab i))) (ha : a < n) (hb : b < n) (hn : n ≤ 256) (hsa : (lab a).size ≤ 1048576) (hsb : (lab b).size ≤ 1048576) :
    Calls Try.prog 15 #[v0, .int .i64 a, .int .i64 b] w fun e w' => e = .returned (.bool (nb lab a b)) ∧ Below w.heap.size w w' := by
  obtain ⟨a0, c0, rfl, k0⟩ := id h0
  obtain ⟨xa, oa, rfl, hxa, ya⟩ := k0 a ha
  obtain ⟨xb, ob, e, hxb, yb⟩ := k0 b hb
  cases e
  clear k0 h0
  replace ya : w.cell? ⟨xa, oa + a, none⟩ = some (.string (lab a)) := ya
  replace yb : w.cell? ⟨xa, oa + b, none⟩ = some (.string (lab b)) := yb
  have i1 : (0 : Int) ≤ (a : Int) := by omega
  have i2 : (a : Int) < (n : Int) := by omega
  have i3 : (0 : Int) ≤ (b : Int) := by omega
  have i4 : (b : Int) < (n : Int) := by omega
  have HA := hide (fun k => @Agree.differ lab a b k)
  have HB := hide (fun k => @Agree.short lab a b k)
  have HC := hide (fun k => @Agree.same lab a b k)
  generalize nb lab a b = r at *
  generalize lab a = x at *
  generalize lab b = y at *
  go_enter Try.func15, Try.ntmps15
  go_wp2_with fail
  go_loopg [9] x.size (fun gg i wr => ∃ k : Nat, gg = x.size - k ∧ i = .int .i64 k ∧ Agree x y k ∧ Below w.heap.size w wr)
  case atStart => exact ⟨0, rfl, rfl, Agree.start x y, Below.refl _ _⟩
  case round =>
    obtain ⟨k, hgg, rfl, ag, br⟩ := hrel
    have HG := hide hgg
    have HAg := hide ag
    have k1 := ag.2.1
    have k2 := ag.2.2
    clear hgg ag
    have j0 : (0 : Int) ≤ (k : Int) := by omega
    by_cases hk : k < x.size ∧ k < y.size
    · obtain ⟨hkx, hky⟩ := hk
      have j1 : (k : Int) < (x.size : Int) := by omega
      have j2 : (k : Int) < (y.size : Int) := by omega
      by_cases e : x[k].toNat = y[k].toNat
      · have HSt := hide (HAg.out.step hkx hky e)
        have eb : ((x[k].toNat : Int) != (y[k].toNat : Int)) = false := by simp [e]
        clear e
        go_upto_region 5 with fail
        go_quiet (fail)
        go_wp2_with fail
        go_roundg (x.size - (k + 1))
        case measure => rw [HG.out]; omega
        case rel => exact ⟨k + 1, rfl, by go_num, HSt.out, below_drewN br _⟩
      · have HR := hide (HA.out k HAg.out hkx hky e)
        have eb : ((x[k].toNat : Int) != (y[k].toNat : Int)) = true := by simp; omega
        clear e
        go_upto_region 5 with fail
        go_quiet (fail)
        go_upto_region 6 with fail
        go_quiet (fail)
        go_wp2_with fail
        go_ret
        exact ⟨by rw [HR.out]; simp, below_drewN (below_drewN br _) _⟩
    · by_cases e : x.size = y.size
      · have HR := hide (HC.out k HAg.out hk e)
        have eb : ((x.size : Int) != (y.size : Int)) = false := by simp [e]
        have j1 : ¬ (k : Int) < (x.size : Int) := by omega
        clear e
        go_wp2_with fail
        go_ret
        exact ⟨by rw [HR.out]; simp, br⟩
      · have HR := hide (HB.out k HAg.out hk e)
        have eb : ((x.size : Int) != (y.size : Int)) = true := by simp; omega
        by_cases j1 : (k : Int) < (x.size : Int)
        · have j2 : ¬ (k : Int) < (y.size : Int) := by omega
          clear e
          go_wp2_with fail
          go_ret
          exact ⟨by rw [HR.out]; simp, br⟩
        · clear e
          go_wp2_with fail
          go_ret
          exact ⟨by rw [HR.out]; simp, br⟩
end Go.Proofs.Qxb6628650a
