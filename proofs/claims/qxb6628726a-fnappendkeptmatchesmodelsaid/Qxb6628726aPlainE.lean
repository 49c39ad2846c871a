/-
  THE PLAIN LAWS, fifth part (seat b6628726a): kept is a suffix; free of the shift.
-/
import Derived.Test.Qxb6628726aPlainD
import Derived.Test.Qxb6628726aAny
namespace Go.Proofs.Qxb6628726a
open Go.RowKit
set_option linter.unusedVariables false

/-- Keys rise, values (of a limited log) are not negative. -/
structure Rise (M : List (Int × Int)) (lim : Bool) : Prop where
  inc : ∀ j, j + 1 < M.length → (M.getD j (0, 0)).1 < (M.getD (j + 1) (0, 0)).1
  val : lim = true → ∀ j, j < M.length → 0 ≤ (M.getD j (0, 0)).2
theorem Args.rise {wins sr : List (Int × Int)} {d t : Int} (h : Args wins sr d t) {lim : Bool} {f : Int × Int → Int} (o : Ones lim f) : Rise (Mw wins f sr) lim :=
  ⟨Mw_inc f h, fun hl j hj => by have := (o.bd h hl).1 j hj; omega⟩

theorem ndP_mono {M : List (Int × Int)} {lim : Bool} (h : Rise M lim) (t len limit : Int) : ∀ k j, j + k < M.length → ndP M lim t len limit j = true → ndP M lim t len limit (j + k) = true
  | 0, j, _, hp => hp
  | k + 1, j, hj, hp => by
    have ih := ndP_mono h t len limit k j (by omega) hp
    unfold ndP at ih ⊢
    rw [Bool.and_eq_true, decide_eq_true_iff] at ih ⊢
    have a := h.inc (j + k) (by omega)
    refine ⟨by rw [show j + (k + 1) = j + k + 1 by omega]; omega, ?_⟩
    cases lim with
    | false => rfl
    | true =>
      have b := ih.2
      rw [Bool.or_eq_true, decide_eq_true_iff] at b ⊢
      rcases b with b | b
      · simp at b
      · right
        have c := suf_step M (j + k + 1) (by omega)
        have v := h.val rfl (j + k + 1) (by omega)
        rw [show j + (k + 1) + 1 = j + k + 1 + 1 by omega]
        omega

theorem oldP_le {M : List (Int × Int)} {lim : Bool} (h : Rise M lim) (wins : List (Int × Int)) (t : Int) (j : Nat) (hj : j < M.length) : oldP M wins lim t ≤ j ↔ ∃ i, i < wins.length ∧ ndP M lim t (wins.getD i (0, 0)).2 (wins.getD i (0, 0)).1 j = true := by
  unfold oldP
  rw [minS_le_iff]
  constructor
  · rintro (x | ⟨p, hp, hle⟩)
    · omega
    · obtain ⟨q, hq, rfl⟩ := List.mem_map.1 hp
      obtain ⟨i, hi, e⟩ := List.getElem_of_mem hq
      refine ⟨i, hi, ?_⟩
      have hg : wins.getD i (0, 0) = q := by simp [hi, e]
      rw [hg]
      simp only at hle
      obtain ⟨_, _, _, hs⟩ := fsN_spec (ndP M lim t q.2 q.1) M.length M.length 0 (by omega) (by omega)
      generalize fsN (ndP M lim t q.2 q.1) M.length M.length 0 = r at hle hs
      have := ndP_mono h t q.2 q.1 (j - r) r (by omega) (hs (by omega))
      rw [show r + (j - r) = j by omega] at this
      exact this
  · rintro ⟨i, hi, hp⟩
    right
    have hg : wins.getD i (0, 0) = wins[i] := by simp [hi]
    rw [hg] at hp
    refine ⟨_, List.mem_map.2 ⟨wins[i], List.getElem_mem hi, rfl⟩, ?_⟩
    simp only
    obtain ⟨_, _, hn, _⟩ := fsN_spec (ndP M lim t wins[i].2 wins[i].1) M.length M.length 0 (by omega) (by omega)
    generalize fsN (ndP M lim t wins[i].2 wins[i].1) M.length M.length 0 = r at hn
    by_cases c : r ≤ j
    · omega
    · have := hn j (by omega) (by omega); rw [this] at hp; simp at hp
theorem oldP_bd (M wins : List (Int × Int)) (lim : Bool) (t : Int) : 0 ≤ oldP M wins lim t ∧ oldP M wins lim t ≤ M.length := by
  refine ⟨minS_nonneg _ _ (fun p hp => ?_) (by omega), minS_le _ _⟩
  obtain ⟨q, hq, rfl⟩ := List.mem_map.1 hp
  simp only
  omega

theorem body_move (M : List (Int × Int)) (val : Nat → Int) (d t : Int) (hd : 0 ≤ d) (hM : ∀ j, j < M.length → 0 ≤ (M.getD j (0, 0)).1 ∧ (M.getD j (0, 0)).1 ≤ t) (m : Nat) : ∀ k, m + k ≤ M.length → body (instM M d) val (t + d).toNat m k = body (instM M 0) val t.toNat m k
  | 0, _ => rfl
  | k + 1, h => by
    simp only [body]
    rw [body_move M val d t hd hM m k (by omega)]
    have : stepOf (instM M d) (t + d).toNat m (m + k) = stepOf (instM M 0) t.toNat m (m + k) := by
      have a := hM (m + k) (by omega)
      unfold stepOf instM
      split
      · omega
      · have b := hM (m + k - 1) (by omega)
        omega
    rw [this]

/-- How many entries are kept, and what is written of them. -/
def knP (M wins : List (Int × Int)) (lim : Bool) (t : Int) : Int := (M.length : Int) - oldP M wins lim t
def sectP (M wins : List (Int × Int)) (lim : Bool) (t : Int) : List Int := sect (instM M 0) (fun j => (M.getD j (0, 0)).2) t.toNat (oldP M wins lim t).toNat (M.length - (oldP M wins lim t).toNat)
theorem Built.kn {s : LS} {wins : List (Int × Int)} {lim : Bool} {f : Int × Int → Int} {d t : Int} {sr : List (Int × Int)} (b : Built s wins lim f d sr) (h : Args wins sr d t) (o : Ones lim f) : s.kn (t + d).toNat = knP (Mw wins f sr) wins lim t := by
  unfold LS.kn knP
  rw [b.old h o, (b.shape h).len]
theorem Built.sect {s : LS} {wins : List (Int × Int)} {lim : Bool} {f : Int × Int → Int} {d t : Int} {sr : List (Int × Int)} (b : Built s wins lim f d sr) (h : Args wins sr d t) (o : Ones lim f) :
    sect (instM (Mw wins f sr) d) (fun j => (s.tk.getD j (0, 0)).2) (t + d).toNat (s.old (t + d).toNat).toNat (s.tk.length - (s.old (t + d).toNat).toNat) = sectP (Mw wins f sr) wins lim t := by
  have sh := b.shape h
  have bd := oldP_bd (Mw wins f sr) wins lim t
  rw [b.old h o, sh.len, sectP, Go.Proofs.Qxb6628726a.sect, Go.Proofs.Qxb6628726a.sect]
  congr 1
  rw [body_move _ _ d t h.d0 (Mw_bd f h) _ _ (by omega)]
  exact body_ext _ _ _ _ _ _ (fun j hj => by rw [sh.at_ j (by omega)])

/-- What AppendKept answers over logs that a script built. -/
def keptP (l : List Int) (uw cw sr : List (Int × Int)) (d t : Int) : List Int :=
  if knP (Mw uw Prod.snd sr) uw false t + knP (Mw cw (fun _ => 1) sr) cw true t = 0 then l else l ++ hdr (t + d).toNat ++ (sectP (Mw uw Prod.snd sr) uw false t ++ sectP (Mw cw (fun _ => 1) sr) cw true t)
theorem keptL_is {s c : LS} {uw cw sr : List (Int × Int)} {d t : Int} (l : List Int) (bs : Built s uw false Prod.snd d sr) (bc : Built c cw true (fun _ => 1) d sr) (hu : Args uw sr d t) (hc : Args cw sr d t) :
    keptL l s c (instM (Mw uw Prod.snd sr) d) (instM (Mw cw (fun _ => 1) sr) d) (t + d).toNat = keptP l uw cw sr d t := by
  have o1 : Ones false Prod.snd := fun h => by cases h
  have o2 : Ones true (fun _ : Int × Int => (1 : Int)) := fun _ => rfl
  unfold keptL keptP
  rw [bs.kn hu o1, bc.kn hc o2, bs.sect hu o1, bc.sect hc o2]
  simp only [List.append_assoc]

theorem knP_pos {M : List (Int × Int)} {lim : Bool} (h : Rise M lim) (wins : List (Int × Int)) (t : Int) : knP M wins lim t ≠ 0 ↔ 0 < M.length ∧ ∃ i, i < wins.length ∧ ndP M lim t (wins.getD i (0, 0)).2 (wins.getD i (0, 0)).1 (M.length - 1) = true := by
  have bd := oldP_bd M wins lim t
  unfold knP
  by_cases c : 0 < M.length
  · rw [← oldP_le h wins t (M.length - 1) (by omega)]
    exact ⟨fun x => ⟨c, by omega⟩, fun x => by omega⟩
  · exact ⟨fun x => by omega, fun x => absurd x.1 c⟩
theorem knP_any {uw cw sr : List (Int × Int)} {t : Int} {d : Int} (hu : Args uw sr d t) (hc : Args cw sr d t) : knP (Mw uw Prod.snd sr) uw false t + knP (Mw cw (fun _ => 1) sr) cw true t ≠ 0 ↔ AnyK uw cw sr t := by
  have o1 : Ones false Prod.snd := fun h => by cases h
  have o2 : Ones true (fun _ : Int × Int => (1 : Int)) := fun _ => rfl
  have b1 := oldP_bd (Mw uw Prod.snd sr) uw false t
  have b2 := oldP_bd (Mw cw (fun _ => 1) sr) cw true t
  have k1 := knP_pos (hu.rise o1) uw t
  have k2 := knP_pos (hc.rise o2) cw t
  have key : ∀ (wins : List (Int × Int)) (f : Int × Int → Int), 0 < wins.length → 0 < sr.length → 0 < (Mw wins f sr).length ∧ ((Mw wins f sr).getD ((Mw wins f sr).length - 1) (0, 0)).1 = (sr.getD (sr.length - 1) (0, 0)).1 := by
    intro wins f hw hs
    have e : Mw wins f sr = mg f sr sr.length := by unfold Mw; rw [if_neg (by omega)]
    rw [e]
    exact (mg_keyed f sr hu.mo sr.length (Nat.le_refl _)).last hs
  have len : ∀ (wins : List (Int × Int)) (f : Int × Int → Int), 0 < (Mw wins f sr).length → 0 < sr.length := fun wins f h => by have := Mw_len wins f sr hu.mo; omega
  have split : knP (Mw uw Prod.snd sr) uw false t + knP (Mw cw (fun _ => 1) sr) cw true t ≠ 0 ↔ knP (Mw uw Prod.snd sr) uw false t ≠ 0 ∨ knP (Mw cw (fun _ => 1) sr) cw true t ≠ 0 := by
    unfold knP
    omega
  rw [split, k1, k2]
  constructor
  · rintro (⟨h1, i, hi, hp⟩ | ⟨h1, i, hi, hp⟩)
    · have hs := len _ _ h1
      have e := (key uw Prod.snd (by omega) hs).2
      unfold ndP at hp
      rw [e] at hp
      simp at hp
      exact ⟨hs, .inl ⟨i, hi, by simpa using hp⟩⟩
    · have hs := len _ _ h1
      have e := (key cw (fun _ => 1) (by omega) hs).2
      unfold ndP at hp
      rw [e, suf_end _ _ (by omega)] at hp
      rw [Bool.and_eq_true, decide_eq_true_iff] at hp
      refine ⟨hs, .inr ⟨i, hi, ?_, hp.1⟩⟩
      have := hp.2
      simp at this
      simp
      omega
  · rintro ⟨hs, ⟨i, hi, hp⟩ | ⟨i, hi, h1, hp⟩⟩
    · left
      obtain ⟨a, e⟩ := key uw Prod.snd (by omega) hs
      refine ⟨a, i, hi, ?_⟩
      unfold ndP
      rw [e, decide_eq_true hp]; rfl
    · right
      obtain ⟨a, e⟩ := key cw (fun _ => 1) (by omega) hs
      refine ⟨a, i, hi, ?_⟩
      unfold ndP
      rw [e, decide_eq_true hp, suf_end _ _ (by omega), decide_eq_true (by omega)]; rfl
end Go.Proofs.Qxb6628726a
