/-
  AppendKept over logs that a script built (seat b6628726a).
-/
import Derived.Test.Qxb6628726aPlainE
import Derived.Test.Qxb6628726aSec
import Derived.Test.Qxb6628726aZZ
namespace Go.Proofs.Qxb6628726a
open Go.RowKit
set_option linter.unusedVariables false

theorem Prem.mo {uw cw sr : List (Int × Int)} {t : Int} (h : Prem uw cw sr t) : ∀ i j, i ≤ j → j < sr.length → (sr.getD i (0, 0)).1 ≤ (sr.getD j (0, 0)).1 := by
  intro i j hij
  obtain ⟨k, rfl⟩ : ∃ k, j = i + k := ⟨j - i, by omega⟩
  clear hij
  induction k with
  | zero => intro _; simp
  | succ k ih => intro hj; exact Int.le_trans (ih (by omega)) (h.s1 (i + k) (by omega))
theorem Prem.argsU {uw cw sr : List (Int × Int)} {t d : Int} (h : Prem uw cw sr t) (l0 : uw.length ≤ 1000000) (l2 : sr.length ≤ 100000) (hd : 0 ≤ d) (htd : t + d ≤ 4611686018427387904) : Args uw sr d t := ⟨l0, l2, hd, h.t0, htd, h.u, h.s0, h.mo⟩
theorem Prem.argsC {uw cw sr : List (Int × Int)} {t d : Int} (h : Prem uw cw sr t) (l0 : cw.length ≤ 1000000) (l2 : sr.length ≤ 100000) (hd : 0 ≤ d) (htd : t + d ≤ 4611686018427387904) : Args cw sr d t := ⟨l0, l2, hd, h.t0, htd, h.c, h.s0, h.mo⟩

def KB (w w' : World) (B0 L : Nat) (v : Value) (s c : LS) (l' : List Int) (b : Bool) (e : Ending) : Prop :=
  ∃ v', e = .returned (.tuple #[v', .bool b]) ∧ Own w' B0 v' l' ∧ Below B0 w w' ∧ Fr3 w w' L s c v ∧ (v'.ownBlock = v.ownBlock ∨ ∃ g, v'.ownBlock = some g ∧ w.heap.size ≤ g)

theorem sectP_len (M wins : List (Int × Int)) (lim : Bool) (t : Int) (h : M.length ≤ 100000) : (sectP M wins lim t).length ≤ 3000000 := by
  unfold sectP sect
  have a := uv_len 9 ((M.length - (oldP M wins lim t).toNat : Nat) : Int)
  have b := body_len (instM M 0) (fun j => (M.getD j (0, 0)).2) t.toNat (oldP M wins lim t).toNat (M.length - (oldP M wins lim t).toNat)
  rw [List.length_append]
  omega

theorem keptBuilt (L B B0 : Nat) (s c : LS) (uw cw sr : List (Int × Int)) (d t : Nat) (v : Value) (l : List Int) (b : Bool) (w : World) (h : Two w B L s c)
    (bs : Built s uw false Prod.snd d sr) (bc : Built c cw true (fun _ => 1) d sr) (hu : Args uw sr d t) (hc : Args cw sr d t)
    (hown : Own w B0 v l) (hB0 : B0 ≤ B) (hv : ∀ k, v.ownBlock = some k → k < B) (hl : l.length ≤ 2000000) (hb : b = true ↔ AnyK uw cw sr t) :
    Calls Try.prog 10 #[.pointer (some ⟨L, 0, none⟩), v, TM (t + d)] w fun e w' => KB w w' B0 L v s c (keptP l uw cw sr d t) b e := by
  have o1 : Ones false Prod.snd := fun h => by cases h
  have o2 : Ones true (fun _ : Int × Int => (1 : Int)) := fun _ => rfl
  have eT : ((t : Int) + (d : Int)).toNat = t + d := by omega
  have a1 := bs.advOk hu o1
  have a2 := bc.advOk hc o2
  have i1 := bs.inOk hu
  have i2 := bc.inOk hc
  have td := hu.td
  have hn := hu.n
  have e1 := keptL_is l bs bc hu hc
  have e2 := knP_any hu hc
  have k1 := bs.kn hu o1
  have k2 := bc.kn hc o2
  have hlen := (bs.shape hu).len
  have hM := Mw_len uw Prod.snd sr hu.mo
  rw [eT] at a1 a2 i1 i2 e1 k1 k2
  refine (appendKept_any L B B0 s c (t + d) v l _ _ w h a1 a2 (by omega) hown hB0 hv hl (by omega) i1 i2).mono ?_
  rintro e w' ⟨v', he, ho, hbel, hfr, hlies⟩
  refine ⟨v', ?_, ?_, hbel, hfr, hlies⟩
  · rw [he, k1, k2]
    have : decide (knP (Mw uw Prod.snd sr) uw false ↑t + knP (Mw cw (fun _ => 1) sr) cw true ↑t ≠ 0) = b := by
      rw [← Bool.coe_iff_coe, decide_eq_true_iff, e2, hb]
    rw [this]
  · rw [← e1]; exact ho

theorem keptP_len (l : List Int) (uw cw sr : List (Int × Int)) (d t : Int) (hmo : ∀ i j, i ≤ j → j < sr.length → (sr.getD i (0, 0)).1 ≤ (sr.getD j (0, 0)).1) (hn : sr.length ≤ 100000) : (keptP l uw cw sr d t).length ≤ l.length + 7000000 := by
  have a := sectP_len (Mw uw Prod.snd sr) uw false t (by have := Mw_len uw Prod.snd sr hmo; omega)
  have b := sectP_len (Mw cw (fun _ => 1) sr) cw true t (by have := Mw_len cw (fun _ => 1) sr hmo; omega)
  have c := hdr_len (t + d).toNat
  unfold keptP
  split
  · omega
  · simp only [List.length_append]; omega

/-- What is kept, told apart. -/
theorem keptP_no {uw cw sr : List (Int × Int)} {d t : Int} (l : List Int) (hu : Args uw sr d t) (hc : Args cw sr d t) (h : ¬ AnyK uw cw sr t) : keptP l uw cw sr d t = l := by
  have e2 := knP_any hu hc
  unfold keptP
  rw [if_pos (by apply Classical.byContradiction; intro x; exact h (e2.1 x))]
/-- The sections behind the header. -/
def tailP (uw cw sr : List (Int × Int)) (t : Int) : List Int := sectP (Mw uw Prod.snd sr) uw false t ++ sectP (Mw cw (fun _ => 1) sr) cw true t
theorem keptP_yes {uw cw sr : List (Int × Int)} {d t : Int} (l : List Int) (hu : Args uw sr d t) (hc : Args cw sr d t) (h : AnyK uw cw sr t) : keptP l uw cw sr d t = (l ++ hdr (t + d).toNat) ++ tailP uw cw sr t := by
  have e2 := knP_any hu hc
  unfold keptP tailP
  rw [if_neg (e2.2 h)]
theorem tailP_pos (uw cw sr : List (Int × Int)) (t : Int) : 0 < (tailP uw cw sr t).length := by
  unfold tailP sectP sect
  have a := uv_len 9 (((Mw uw Prod.snd sr).length - (oldP (Mw uw Prod.snd sr) uw false t).toNat : Nat) : Int)
  simp only [List.length_append]
  omega
end Go.Proofs.Qxb6628726a
