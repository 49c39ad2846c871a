/-
  THE HEAP (seat b6628650a): the plain laws of sifting.
-/
import Derived.Test.Qxb6628650aQ
namespace Go.Proofs.Qxb6628650a
open Go.RowKit
set_option linter.unusedVariables false

def key (q : QL) (i : Nat) : Nat := (gt q i).2
def par (c : Nat) : Nat := (c - 1) / 2
theorem key_sw (q : QL) (i j k : Nat) (hi : i < q.length) (hj : j < q.length) : key (sw q i j) k = if k = j then key q i else if k = i then key q j else key q k := by
  unfold key; rw [gt_sw q i j k hi hj]; by_cases a : k = j
  · rw [if_pos a, if_pos a]
  · rw [if_neg a, if_neg a]
    by_cases b : k = i
    · rw [if_pos b, if_pos b]
    · rw [if_neg b, if_neg b]

def Heap (q : QL) (n : Nat) : Prop := ∀ c, 0 < c → c < n → key q (par c) ≤ key q c
structure UpInv (q : QL) (j : Nat) : Prop where
  a : ∀ c, 0 < c → c < q.length → c ≠ j → key q (par c) ≤ key q c
  b : ∀ c, 0 < c → c < q.length → par c = j → 0 < j → key q (par j) ≤ key q c

theorem up_step {q : QL} {i j : Nat} (h : UpInv q j) (h0 : 0 < j) (hj : j < q.length) (hi : i = par j) (hlt : key q j < key q i) : UpInv (sw q i j) i := by
  have hij : i < j := by rw [hi]; unfold par; omega
  have hil : i < q.length := by omega
  refine ⟨fun c h1 h2 h3 => ?_, fun c h1 h2 h3 h4 => ?_⟩
  · rw [sw_len] at h2
    rw [key_sw q i j _ hil hj, key_sw q i j _ hil hj]
    by_cases c1 : c = j
    · rw [if_pos c1, c1, ← hi, if_neg (by omega), if_pos rfl]; omega
    · rw [if_neg c1, if_neg h3]
      have ha := h.a c h1 h2 c1
      by_cases c2 : par c = j
      · rw [if_pos c2]
        have := h.b c h1 h2 c2 h0
        rw [← hi] at this; exact this
      · rw [if_neg c2]
        by_cases c3 : par c = i
        · rw [if_pos c3]; rw [c3] at ha; omega
        · rw [if_neg c3]; exact ha
  · rw [sw_len] at h2
    have hpi : par i < i := by unfold par; omega
    have hai := h.a i h4 hil (by omega)
    rw [key_sw q i j _ hil hj, key_sw q i j _ hil hj, if_neg (by omega), if_neg (by omega)]
    by_cases c1 : c = j
    · rw [if_pos c1]; exact hai
    · rw [if_neg c1]
      have hc : c ≠ i := by intro e; rw [e] at h3; omega
      rw [if_neg hc]
      have := h.a c h1 h2 c1
      rw [h3] at this; omega
theorem up_done {q : QL} {j : Nat} (h : UpInv q j) (hd : j = 0 ∨ ¬ key q j < key q (par j)) : Heap q q.length := by
  intro c h1 h2
  by_cases e : c = j
  · rcases hd with d | d
    · omega
    · rw [e]; omega
  · exact h.a c h1 h2 e
theorem up_start {q : QL} (h : Heap q q.length) (x : Nat × Nat) : UpInv (q ++ [x]) q.length := by
  have e : ∀ c, c < q.length → key (q ++ [x]) c = key q c := fun c hc => by simp [key, gt, List.getElem?_append, hc]
  refine ⟨fun c h1 h2 h3 => ?_, fun c h1 h2 h3 h4 => ?_⟩
  · simp at h2
    have hp : par c < c := by unfold par; omega
    rw [e c (by omega), e (par c) (by omega)]
    exact h c h1 (by omega)
  · simp at h2
    have hp : par c < c := by unfold par; omega
    omega

structure DnInv (q : QL) (n i : Nat) : Prop where
  a : ∀ c, 0 < c → c < n → par c ≠ i → key q (par c) ≤ key q c
  b : ∀ c, 0 < c → c < n → par c = i → 0 < i → key q (par i) ≤ key q c
theorem dn_step {q : QL} {n i j : Nat} (h : DnInv q n i) (hn : n ≤ q.length) (hj0 : 0 < j) (hj : j < n) (hp : par j = i) (hmin : ∀ c, 0 < c → c < n → par c = i → key q j ≤ key q c) (hlt : key q j < key q i) : DnInv (sw q i j) n j := by
  have hij : i < j := by rw [← hp]; unfold par; omega
  have hil : i < q.length := by omega
  have hjl : j < q.length := by omega
  refine ⟨fun c h1 h2 h3 => ?_, fun c h1 h2 h3 h4 => ?_⟩
  · rw [key_sw q i j _ hil hjl, key_sw q i j _ hil hjl, if_neg h3]
    by_cases c1 : par c = i
    · rw [if_pos c1]
      have hc : c ≠ i := by intro e; rw [e] at c1; unfold par at c1; omega
      by_cases c2 : c = j
      · rw [if_pos c2]; omega
      · rw [if_neg c2, if_neg hc]; exact hmin c h1 h2 c1
    · rw [if_neg c1]
      have hc : c ≠ j := by intro e; rw [e] at c1; exact c1 hp
      rw [if_neg hc]
      by_cases c2 : c = i
      · rw [if_pos c2, c2]; exact h.b j hj0 hj hp (by omega)
      · rw [if_neg c2]; exact h.a c h1 h2 c1
  · have hcj : j < c := by rw [← h3]; unfold par; omega
    rw [key_sw q i j _ hil hjl, key_sw q i j _ hil hjl, hp, if_neg (by omega), if_pos rfl, if_neg (by omega), if_neg (by omega)]
    have := h.a c h1 h2 (by omega)
    rw [h3] at this; exact this
theorem dn_done {q : QL} {n i : Nat} (h : DnInv q n i) (hd : ∀ c, 0 < c → c < n → par c = i → key q i ≤ key q c) : Heap q n := by
  intro c h1 h2
  by_cases e : par c = i
  · rw [e]; exact hd c h1 h2 e
  · exact h.a c h1 h2 e
theorem dn_start {q : QL} (h : Heap q q.length) (hn : 0 < q.length) : DnInv (sw q 0 (q.length - 1)) (q.length - 1) 0 := by
  refine ⟨fun c h1 h2 h3 => ?_, fun c h1 h2 h3 h4 => by omega⟩
  have hp : par c < c := by unfold par; omega
  rw [key_sw q _ _ _ (by omega) (by omega), key_sw q _ _ _ (by omega) (by omega), if_neg (by omega), if_neg h3, if_neg (by omega), if_neg (by omega)]
  exact h c h1 (by omega)
theorem heap_min {q : QL} {n : Nat} (h : Heap q n) : ∀ c, c < n → key q 0 ≤ key q c := by
  intro c
  induction c using Nat.strongRecOn with
  | _ c ih =>
    intro hc
    by_cases c0 : c = 0
    · rw [c0]; exact Nat.le_refl _
    · have hp : par c < c := by unfold par; omega
      have a := ih (par c) hp (by omega)
      have b := h c (by omega) hc
      omega
theorem heap_take {q : QL} {n : Nat} (h : Heap q n) (hn : n ≤ q.length) : Heap (q.take n) (q.take n).length := by
  have e : ∀ c, c < n → key (q.take n) c = key q c := fun c hc => by simp [key, gt, hc]
  intro c h1 h2
  rw [List.length_take] at h2
  have hp : par c < c := by unfold par; omega
  rw [e c (by omega), e (par c) (by omega)]
  exact h c h1 (by omega)
theorem mem_key {q : QL} {P : Nat → Prop} (h : ∀ e ∈ q, P e.2) (i : Nat) (hi : i < q.length) : P (key q i) := by
  have : gt q i ∈ q := by simp [gt, hi]
  exact h _ this
theorem take_last {q : QL} (h : 0 < q.length) : q.take (q.length - 1) ++ [gt q (q.length - 1)] = q := by
  have e : gt q (q.length - 1) = q[q.length - 1]'(by omega) := by simp [gt, show q.length - 1 < q.length by omega]
  rw [e, ← List.take_succ_eq_append_getElem (by omega), show q.length - 1 + 1 = q.length by omega, List.take_length]
end Go.Proofs.Qxb6628650a
