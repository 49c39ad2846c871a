/-
  THE PLAIN LAWS, second part (seat b6628726a): which entries a log keeps.
-/
import Derived.Test.Qxb6628726aPlain
namespace Go.Proofs.Qxb6628726a
open Go.RowKit
set_option linter.unusedVariables false

def suf (M : List (Int × Int)) (j : Nat) : Int := (M.drop j).foldr (fun p s => p.2 + s) 0
theorem suf_step (M : List (Int × Int)) (j : Nat) (h : j < M.length) : suf M j = (M.getD j (0, 0)).2 + suf M (j + 1) := by
  unfold suf
  have e : M.getD j (0, 0) = M[j] := by simp [h]
  rw [List.drop_eq_getElem_cons h, List.foldr_cons, e]
theorem suf_end (M : List (Int × Int)) (j : Nat) (h : M.length ≤ j) : suf M j = 0 := by
  unfold suf; rw [List.drop_eq_nil_of_le h]; rfl
theorem suf_bd (M : List (Int × Int)) (hv : ∀ j, j < M.length → 0 ≤ (M.getD j (0, 0)).2 ∧ (M.getD j (0, 0)).2 ≤ 1000000) : ∀ (d j : Nat), M.length - j = d → 0 ≤ suf M j ∧ suf M j ≤ d * 1000000
  | 0, j, h => by rw [suf_end M j (by omega)]; omega
  | d + 1, j, h => by
    have a := suf_bd M hv d (j + 1) (by omega)
    have b := hv j (by omega)
    rw [suf_step M j (by omega)]
    omega

/-- Is the entry j needed at t by a window? -/
def ndP (M : List (Int × Int)) (lim : Bool) (t len limit : Int) (j : Nat) : Bool := decide (t - (M.getD j (0, 0)).1 < len) && (!lim || decide (suf M (j + 1) < limit))
/-- The first j from s on that p holds of, or n. -/
def fsN (p : Nat → Bool) (n : Nat) : Nat → Nat → Nat
  | 0, s => s
  | f + 1, s => if s < n then (if p s then s else fsN p n f (s + 1)) else s

theorem adv1_is (tk M : List (Int × Int)) (lim : Bool) (left limit t len : Int) (hn : tk.length = M.length) (hn2 : M.length ≤ 1000000)
    (hk : ∀ j, j < M.length → (left < (tk.getD j (0, 0)).1 ↔ t - (M.getD j (0, 0)).1 < len)) (hv : ∀ j, j < M.length → (tk.getD j (0, 0)).2 = (M.getD j (0, 0)).2)
    (hs : lim = true → ∀ j, j < M.length → 0 ≤ (M.getD j (0, 0)).2 ∧ (M.getD j (0, 0)).2 ≤ 1000000) :
    ∀ (f s : Nat) (u : Int), (lim = true → u = suf M s) → (adv1 tk lim left limit f s u).1 = (fsN (ndP M lim t len limit) M.length f s : Nat)
  | 0, s, u, hu => rfl
  | f + 1, s, u, hu => by
    rw [adv1, fsN]
    by_cases c : s < M.length
    · rw [if_pos (by omega), if_pos c]
      have e1 : tk.getD (s : Int).toNat (0, 0) = tk.getD s (0, 0) := by simp
      rw [e1]
      have hne : need lim left limit u (tk.getD s (0, 0)) = ndP M lim t len limit s := by
        unfold need ndP
        have a : decide (left < (tk.getD s (0, 0)).1) = decide (t - (M.getD s (0, 0)).1 < len) := by rw [Bool.eq_iff_iff, decide_eq_true_iff, decide_eq_true_iff]; exact hk s c
        rw [a, hv s c]
        cases lim with
        | false => rfl
        | true =>
          rw [hu rfl, suf_step M s c]
          congr 2
          rw [Bool.eq_iff_iff, decide_eq_true_iff, decide_eq_true_iff]
          omega
      rw [hne]
      by_cases d : ndP M lim t len limit s = true
      · rw [if_pos d, if_pos d]
      · rw [if_neg d, if_neg d]
        refine adv1_is tk M lim left limit t len hn hn2 hk hv hs f (s + 1) _ (fun hl => ?_)
        have b1 := suf_bd M (hs hl) (M.length - s) s rfl
        have b2 := suf_bd M (hs hl) (M.length - (s + 1)) (s + 1) rfl
        rw [hu hl, hv s c, suf_step M s c] at *
        unfold wrap64
        omega
    · rw [if_neg (by omega), if_neg c]

theorem fsN_spec (p : Nat → Bool) (n : Nat) : ∀ f s, s ≤ n → n ≤ s + f → s ≤ fsN p n f s ∧ fsN p n f s ≤ n ∧ (∀ j, s ≤ j → j < fsN p n f s → p j = false) ∧ (fsN p n f s < n → p (fsN p n f s) = true)
  | 0, s, h1, h2 => by simp only [fsN]; exact ⟨Nat.le_refl _, h1, fun j a b => by omega, fun h => by omega⟩
  | f + 1, s, h1, h2 => by
    rw [fsN]
    by_cases c : s < n
    · rw [if_pos c]
      by_cases d : p s = true
      · rw [if_pos d]; exact ⟨Nat.le_refl _, h1, fun j a b => by omega, fun _ => d⟩
      · rw [if_neg d]
        obtain ⟨a, b, e, g⟩ := fsN_spec p n f (s + 1) (by omega) (by omega)
        refine ⟨by omega, b, fun j hj1 hj2 => ?_, g⟩
        by_cases x : j = s
        · subst x; simpa using d
        · exact e j (by omega) hj2
    · rw [if_neg c]; exact ⟨Nat.le_refl _, h1, fun j a b => by omega, fun h => by omega⟩

theorem minS_congr : ∀ (l l' : List (Int × Int)) (m : Int), l.map Prod.fst = l'.map Prod.fst → minS l m = minS l' m
  | [], [], m, _ => rfl
  | [], _ :: _, m, h => by simp at h
  | _ :: _, [], m, h => by simp at h
  | p :: l, q :: l', m, h => by
    simp only [List.map_cons, List.cons.injEq] at h
    simp only [minS]
    rw [h.1]
    exact minS_congr l l' _ h.2
theorem minS_le_iff : ∀ (l : List (Int × Int)) (m x : Int), minS l m ≤ x ↔ m ≤ x ∨ ∃ p ∈ l, p.1 ≤ x
  | [], m, x => by simp [minS]
  | q :: l, m, x => by
    simp only [minS]
    rw [minS_le_iff l _ x]
    simp only [List.mem_cons, exists_eq_or_imp]
    constructor
    · rintro (h | h)
      · by_cases c : m ≤ x
        · exact .inl c
        · exact .inr (.inl (by omega))
      · exact .inr (.inr h)
    · rintro (h | h | h)
      · exact .inl (by omega)
      · exact .inl (by omega)
      · exact .inr h

/-- The first entry that some window needs. -/
def oldP (M wins : List (Int × Int)) (lim : Bool) (t : Int) : Int := minS (wins.map fun q => (((fsN (ndP M lim t q.2 q.1) M.length M.length 0 : Nat) : Int), 0)) M.length
end Go.Proofs.Qxb6628726a
