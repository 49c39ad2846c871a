/-
  THE PLAIN LAWS, fourth part (seat b6628726a): a built log, and what it keeps at T.
-/
import Derived.Test.Qxb6628726aPlainC
namespace Go.Proofs.Qxb6628726a
open Go.RowKit
set_option linter.unusedVariables false

theorem getD_rep {n i : Nat} (x y : Int × Int) (h : i < n) : (List.replicate n x).getD i y = x := by simp [h]
/-- The entries of a built log. -/
def Mw (wins : List (Int × Int)) (f : Int × Int → Int) (sr : List (Int × Int)) : List (Int × Int) := if wins.length = 0 then [] else mg f sr sr.length

/-- What is asked of the arguments. -/
structure Args (wins sr : List (Int × Int)) (d t : Int) : Prop where
  w : wins.length ≤ 1000000
  n : sr.length ≤ 100000
  d0 : 0 ≤ d
  t0 : 0 ≤ t
  td : t + d ≤ 4611686018427387904
  wl : ∀ i, i < wins.length → 0 ≤ (wins.getD i (0, 0)).2 ∧ (wins.getD i (0, 0)).2 ≤ 4611686018427387904
  s0 : ∀ i, i < sr.length → 0 ≤ (sr.getD i (0, 0)).1 ∧ (sr.getD i (0, 0)).1 ≤ t
  mo : ∀ i j, i ≤ j → j < sr.length → (sr.getD i (0, 0)).1 ≤ (sr.getD j (0, 0)).1

structure Built (s : LS) (wins : List (Int × Int)) (lim : Bool) (f : Int × Int → Int) (d : Int) (sr : List (Int × Int)) : Prop where
  ps : s.ps = runS wins.length f d sr sr.length
  lim : s.lim = lim
  wins : s.wins = wins

theorem Mw_len (wins : List (Int × Int)) (f : Int × Int → Int) (sr : List (Int × Int)) (hmo : ∀ i j, i ≤ j → j < sr.length → (sr.getD i (0, 0)).1 ≤ (sr.getD j (0, 0)).1) : (Mw wins f sr).length ≤ sr.length := by
  unfold Mw; split
  · simp
  · exact (mg_keyed f sr hmo sr.length (Nat.le_refl _)).le
theorem Mw_bd {wins sr : List (Int × Int)} {d t : Int} (f : Int × Int → Int) (h : Args wins sr d t) : ∀ j, j < (Mw wins f sr).length → 0 ≤ ((Mw wins f sr).getD j (0, 0)).1 ∧ ((Mw wins f sr).getD j (0, 0)).1 ≤ t := by
  intro j hj
  unfold Mw at hj ⊢
  split at hj
  · simp at hj
  · rename_i c
    rw [if_neg c]
    obtain ⟨i, hi, e⟩ := (mg_keyed f sr h.mo sr.length (Nat.le_refl _)).mem j hj
    rw [e]; exact h.s0 i hi
theorem Mw_inc {wins sr : List (Int × Int)} {d t : Int} (f : Int × Int → Int) (h : Args wins sr d t) : ∀ j, j + 1 < (Mw wins f sr).length → ((Mw wins f sr).getD j (0, 0)).1 < ((Mw wins f sr).getD (j + 1) (0, 0)).1 := by
  intro j hj
  unfold Mw at hj ⊢
  split at hj
  · simp at hj
  · rename_i c
    rw [if_neg c]
    exact (mg_keyed f sr h.mo sr.length (Nat.le_refl _)).inc j hj

/-- The shape of a built log. -/
structure Shape (s : LS) (M : List (Int × Int)) (d : Int) (S : Int) : Prop where
  len : s.tk.length = M.length
  at_ : ∀ j, j < M.length → s.tk.getD j (0, 0) = ((M.getD j (0, 0)).1 + (d - s.base), (M.getD j (0, 0)).2)
  base : ∀ j, j < M.length → (s.base : Int) ≤ (M.getD j (0, 0)).1 + d
  cn : s.cn = List.replicate s.wins.length (0, S)

theorem Built.shape {s : LS} {wins : List (Int × Int)} {lim : Bool} {f : Int × Int → Int} {d t : Int} {sr : List (Int × Int)} (b : Built s wins lim f d sr) (h : Args wins sr d t) : Shape s (Mw wins f sr) d (if wins.length = 0 then 0 else sm f sr sr.length) := by
  have e1 : s.tk = (runS wins.length f d sr sr.length).tk := congrArg PS.tk b.ps
  have e2 : s.cn = (runS wins.length f d sr sr.length).cn := congrArg PS.cn b.ps
  have e3 : s.base = (runS wins.length f d sr sr.length).base := congrArg PS.base b.ps
  by_cases c : wins.length = 0
  · have hz : ∀ k, (runS wins.length f d sr k).tk = [] ∧ (runS wins.length f d sr k).cn = [] := by
      intro k
      induction k with
      | zero => simp [runS, c]
      | succ k ih => rw [runS, PS.add, if_pos c]; exact ih
    have hM : Mw wins f sr = [] := by unfold Mw; rw [if_pos c]
    rw [hM]
    refine ⟨by rw [e1, (hz _).1], fun j hj => by simp at hj, fun j hj => by simp at hj, ?_⟩
    rw [e2, (hz _).2, b.wins, c]; rfl
  · have hr := runS_is wins.length (by omega) f d sr h.d0 (fun i hi => (h.s0 i hi).1) h.mo sr.length (Nat.le_refl _)
    have hM : Mw wins f sr = mg f sr sr.length := by unfold Mw; rw [if_neg c]
    have hk := mg_keyed f sr h.mo sr.length (Nat.le_refl _)
    rw [hM, if_neg c]
    rw [← e1, ← e2, ← e3] at hr
    refine ⟨by rw [hr.1, mv_len], fun j hj => by rw [hr.1, mv_at _ _ j hj], fun j hj => ?_, by rw [hr.2.1, b.wins]⟩
    obtain ⟨i, hi, e⟩ := hk.mem j hj
    have := h.mo 0 i (by omega) hi
    rw [e, hr.2.2.1 (by omega)]
    omega
theorem Built.base {s : LS} {wins : List (Int × Int)} {lim : Bool} {f : Int × Int → Int} {d t : Int} {sr : List (Int × Int)} (b : Built s wins lim f d sr) (h : Args wins sr d t) : s.base ≤ (t + d).toNat := by
  have e3 : s.base = (runS wins.length f d sr sr.length).base := congrArg PS.base b.ps
  rw [e3]
  exact runS_base wins.length f d sr _ sr.length (fun i hi => by have := h.s0 i hi; omega)

/-- A limited log counts checks. -/
def Ones (lim : Bool) (f : Int × Int → Int) : Prop := lim = true → f = fun _ => 1
theorem Ones.bd {lim : Bool} {f : Int × Int → Int} (o : Ones lim f) {wins sr : List (Int × Int)} {d t : Int} (h : Args wins sr d t) (hl : lim = true) : (∀ j, j < (Mw wins f sr).length → 1 ≤ ((Mw wins f sr).getD j (0, 0)).2 ∧ ((Mw wins f sr).getD j (0, 0)).2 ≤ 1000000) ∧ suf (Mw wins f sr) 0 = (if wins.length = 0 then 0 else sm f sr sr.length) ∧ 0 ≤ suf (Mw wins f sr) 0 ∧ suf (Mw wins f sr) 0 ≤ 1000000 := by
  have hn := h.n
  rw [o hl]
  unfold Mw
  split
  · exact ⟨fun j hj => by simp at hj, by simp [suf], by simp [suf], by simp [suf]⟩
  · obtain ⟨a, b, c⟩ := mg_ones sr sr.length (by omega)
    exact ⟨fun j hj => by have := a j hj; omega, by rw [b, c], by rw [b]; omega, by rw [b]; omega⟩

theorem Built.advOk {s : LS} {wins : List (Int × Int)} {lim : Bool} {f : Int × Int → Int} {d t : Int} {sr : List (Int × Int)} (b : Built s wins lim f d sr) (h : Args wins sr d t) (o : Ones lim f) : s.AdvOk (t + d).toNat := by
  have sh := b.shape h
  have hb := b.base h
  have hn := h.n
  have hM := Mw_len wins f sr h.mo
  have t0 := h.t0
  have d0 := h.d0
  refine ⟨by rw [b.wins]; exact h.w, by rw [sh.len]; omega, by rw [sh.cn, List.length_replicate], hb, by rw [b.wins]; exact h.wl, ⟨fun hl j hj => ?_, fun hl j hj => ?_, fun j hj => ?_⟩, fun j hj => ?_⟩
  · rw [sh.len] at hj
    rw [sh.at_ j hj]
    have := (o.bd h (by rw [← b.lim]; exact hl)).1 j hj
    simp only; omega
  · rw [sh.cn] at hj ⊢
    rw [List.length_replicate] at hj
    have := (o.bd h (by rw [← b.lim]; exact hl)).2
    simp only [getD_rep _ _ hj]
    omega
  · rw [sh.cn] at hj ⊢
    rw [List.length_replicate] at hj
    simp only [getD_rep _ _ hj]
    omega
  · rw [sh.len] at hj
    have a := sh.base j hj
    have c := Mw_bd f h j hj
    rw [sh.at_ j hj]
    simp only
    omega

/-- The instants of a built log. -/
def instM (M : List (Int × Int)) (d : Int) (j : Nat) : Nat := ((M.getD j (0, 0)).1 + d).toNat
theorem Built.inOk {s : LS} {wins : List (Int × Int)} {lim : Bool} {f : Int × Int → Int} {d t : Int} {sr : List (Int × Int)} (b : Built s wins lim f d sr) (h : Args wins sr d t) : s.InOk (instM (Mw wins f sr) d) (t + d).toNat := by
  have sh := b.shape h
  have d0 := h.d0
  refine ⟨fun j hj => ?_, fun j hj => ?_⟩
  · rw [sh.len] at hj
    have a := sh.base j hj
    have c := Mw_bd f h j hj
    rw [sh.at_ j hj]
    unfold instM
    simp only
    omega
  · rw [sh.len] at hj
    have := Mw_inc f h j hj
    unfold instM
    omega

theorem Built.old {s : LS} {wins : List (Int × Int)} {lim : Bool} {f : Int × Int → Int} {d t : Int} {sr : List (Int × Int)} (b : Built s wins lim f d sr) (h : Args wins sr d t) (o : Ones lim f) : s.old (t + d).toNat = oldP (Mw wins f sr) wins lim t := by
  have sh := b.shape h
  have hb := b.base h
  have hn := h.n
  have hM := Mw_len wins f sr h.mo
  have t0 := h.t0
  have d0 := h.d0
  unfold LS.old oldP
  rw [sh.len]
  refine minS_congr _ _ _ ?_
  apply List.ext_getElem?
  intro i
  simp only [LS.cnT, cnA, List.getElem?_map, b.wins]
  have hcl : s.cn.length = wins.length := by rw [sh.cn, List.length_replicate, b.wins]
  rw [hcl]
  by_cases c : i < wins.length
  · have hc : s.cn.getD i (0, 0) = (0, if wins.length = 0 then 0 else sm f sr sr.length) := by
      rw [sh.cn, b.wins, getD_rep _ _ c]
    simp only [List.getElem?_range c, Option.map_some, if_pos c, List.getElem?_eq_getElem c]
    unfold advR
    rw [hc, b.lim, sh.len]
    have hg : wins.getD i (0, 0) = wins[i] := by simp [c]
    rw [hg]
    congr 1
    refine adv1_is s.tk (Mw wins f sr) lim _ _ t _ sh.len (by omega) (fun j hj => ?_) (fun j hj => by rw [sh.at_ j hj]) (fun hl j hj => by have := (o.bd h hl).1 j hj; omega) (Mw wins f sr).length 0 _ (fun hl => ((o.bd h hl).2.1).symm)
    rw [sh.at_ j hj]
    simp only
    omega
  · have c2 : wins.length ≤ i := by omega
    simp [c2]
end Go.Proofs.Qxb6628726a
