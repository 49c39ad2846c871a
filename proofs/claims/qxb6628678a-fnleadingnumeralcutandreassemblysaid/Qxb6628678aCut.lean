/-
  THE PLAIN LAW of cutting: what LeadingNumeral gives of a cut string; plain.
-/
import Derived.Test.Qxb6628678aAutoB
namespace Go.Proofs.Qxb6628678a.Pl

theorem bt_extract {s : ByteArray} {a b k : Nat} (hb : b ≤ s.size) (hk : a + k < b) : bt (s.extract a b) k = bt s (a + k) := by
  have h1 : k < (s.extract a b).size := by rw [size_extract s a b hb]; omega
  rw [bt_lt h1, bt_lt (show a + k < s.size by omega)]
  congr 1
  simp [ByteArray.getElem_eq_getElem_data, ByteArray.data_extract]
theorem bt_extract_ge {s : ByteArray} {a b k : Nat} (hb : b ≤ s.size) (hk : b ≤ a + k) : bt (s.extract a b) k = 256 := by
  apply bt_ge; rw [size_extract s a b hb]; omega

/-- The head of s: its first k bytes. -/
theorem bt_head {s : ByteArray} {k i : Nat} (hk : k ≤ s.size) (h : i < k) : bt (s.extract 0 k) i = bt s i := by
  rw [bt_extract hk (by omega), Nat.zero_add]
theorem bt_head_ge {s : ByteArray} {k i : Nat} (hk : k ≤ s.size) (h : k ≤ i) : bt (s.extract 0 k) i = 256 := bt_extract_ge hk (by omega)

theorem notD256 : isD 256 = false := rfl

theorem wE_lt_iff (s : ByteArray) : sg s < wE s ↔ isD (bt s (sg s)) = true := by
  constructor
  · intro h; exact (dg_DG s (sg s)).run _ (Nat.le_refl _) h
  · intro h; exact dg_in (Nat.le_refl _) (dg_ge _ _) h
theorem okN_iff (s : ByteArray) : okN s = (isD (bt s (sg s)) || (decide (bt s (sg s) = 46) && isD (bt s (sg s + 1)))) := by
  rw [Bool.eq_iff_iff]
  simp only [okN, Bool.or_eq_true, decide_eq_true_iff, Bool.and_eq_true]
  rw [wE_lt_iff]
  constructor
  · rintro (h | h)
    · exact Or.inl h
    · cases hc : isD (bt s (sg s))
      · have w : sg s = wE s := dg_at (Nat.le_refl _) (dg_ge _ _) hc
        cases hd : hD s
        · rw [fB_no hd, fE_no hd] at h; omega
        · rw [fB_dot hd, fE_dot hd] at h
          have := (dg_DG s (wE s + 1)).run _ (Nat.le_refl _) h
          have e : bt s (wE s) = 46 := by simpa [hD] using hd
          rw [← w] at this e
          exact Or.inr ⟨e, this⟩
      · exact Or.inl rfl
  · rintro (h | ⟨h1, h2⟩)
    · exact Or.inl h
    · have w : sg s = wE s := dg_at (Nat.le_refl _) (dg_ge _ _) (dD h1)
      have hd : hD s = true := by simp [hD, ← w, h1]
      rw [fB_dot hd, fE_dot hd]
      right
      have := dg_in (Nat.le_refl _) (dg_ge s (wE s + 1)) (by rw [← w]; exact h2)
      omega

theorem fE_pos {s : ByteArray} (h : okN s = true) : 0 < fE s := by
  have a := wE_ge s
  have b := fB_ge s
  have c := fE_ge s
  simp [okN] at h
  omega
theorem fE_le_pL {s : ByteArray} (h : okN s = true) : fE s ≤ pL s := by
  have b := xB_ge s
  have c := xE_ge s
  unfold pL; rw [if_pos h]; split <;> omega
theorem pL_pos (s : ByteArray) : (0 < pL s) ↔ okN s = true := by
  constructor
  · intro h; by_cases c : okN s = true
    · exact c
    · simp [pL, c] at h
  · intro h; have := fE_pos h; have := fE_le_pL h; omega

section
variable {s : ByteArray} {k : Nat}
theorem head_sg (h : 0 < k) (hk : k ≤ s.size) : sg (s.extract 0 k) = sg s := by unfold sg; rw [bt_head hk h]
theorem head_dg {i : Nat} (hk : k ≤ s.size) (h : dg s i ≤ k) : dg (s.extract 0 k) i = dg s i := by
  have g := dg_DG s i
  refine dg_eq ⟨g.le, fun j a b => ?_, ?_⟩
  · rw [bt_head hk (by omega)]; exact g.run j a b
  · by_cases c : dg s i < k
    · rw [bt_head hk c]; exact g.stop
    · rw [bt_head_ge hk (by omega)]; rfl

theorem head_no (hk : k ≤ s.size) (h : okN s = false) : okN (s.extract 0 k) = false := by
  rw [okN_iff] at h ⊢
  by_cases c : 0 < k
  · rw [head_sg c hk]
    by_cases c1 : sg s < k
    · rw [bt_head hk c1]
      by_cases c2 : sg s + 1 < k
      · rw [bt_head hk c2]; exact h
      · rw [bt_head_ge hk (show k ≤ sg s + 1 by omega), notD256]
        simp at h ⊢; exact h.1
    · rw [bt_head_ge hk (show k ≤ sg s by omega)]; rfl
  · have e : ∀ i, bt (s.extract 0 k) i = 256 := fun i => bt_head_ge hk (by omega)
    rw [e, e]; rfl

theorem head_cuts (hk : k ≤ s.size) (h : okN s = true) (hl : pL s ≤ k) : sg (s.extract 0 k) = sg s ∧ wE (s.extract 0 k) = wE s ∧ hD (s.extract 0 k) = hD s ∧ fB (s.extract 0 k) = fB s ∧ fE (s.extract 0 k) = fE s ∧ okN (s.extract 0 k) = true := by
  have p := fE_pos h
  have q := fE_le_pL h
  have a := wE_ge s
  have b := fB_ge s
  have c := fE_ge s
  have e1 := head_sg (s := s) (k := k) (by omega) hk
  have e2 : wE (s.extract 0 k) = wE s := by
    unfold wE; rw [e1]; exact head_dg hk (show wE s ≤ k by omega)
  have e3 : hD (s.extract 0 k) = hD s := by
    by_cases g : wE s < k
    · unfold hD; rw [e2, bt_head hk g]
    · cases d : hD s
      · unfold hD; rw [e2, bt_head_ge hk (by omega)]; rfl
      · have := fB_dot d; omega
  have e4 : fB (s.extract 0 k) = fB s := by unfold fB; rw [e3, e2]
  have e5 : fE (s.extract 0 k) = fE s := by
    cases d : hD s
    · rw [fE_no d, fE_no (by rw [e3]; exact d), e2]
    · rw [fE_dot d, fE_dot (by rw [e3]; exact d), e2]
      exact head_dg hk (by rw [← fE_dot d]; omega)
  refine ⟨e1, e2, e3, e4, e5, ?_⟩
  unfold okN; rw [e1, e2, e4, e5]; exact h

theorem head_exp (hk : k ≤ s.size) (h : okN s = true) (hl : pL s ≤ k) : hE (s.extract 0 k) = hE s ∧ (hE s = true → xE (s.extract 0 k) = xE s) := by
  obtain ⟨e1, e2, e3, e4, e5, e6⟩ := head_cuts hk h hl
  have b1 := xB_ge s
  have b2 := xE_ge s
  cases d : hE s
  · refine ⟨?_, fun x => by cases x⟩
    have hp : pL s = fE s := by simp [pL, h, d]
    by_cases c : fE s < k
    · simp only [hE, Bool.and_eq_false_iff, decide_eq_false_iff_not] at d ⊢
      rw [e5, bt_head hk c]
      rcases d with d | d
      · exact Or.inl d
      · right
        have nd : isD (bt s (xB s)) = false := by
          cases x : isD (bt s (xB s))
          · rfl
          · exact absurd (dg_in (Nat.le_refl _) (dg_ge _ _) x) (by unfold xE at d; omega)
        have key : isD (bt (s.extract 0 k) (xB (s.extract 0 k))) = false := by
          by_cases c2 : fE s + 1 < k
          · have ex : xB (s.extract 0 k) = xB s := by unfold xB; rw [e5, bt_head hk c2]
            rw [ex]
            by_cases c3 : xB s < k
            · rw [bt_head hk c3]; exact nd
            · rw [bt_head_ge hk (by omega)]; rfl
          · have := xB_ge (s.extract 0 k)
            rw [e5] at this
            rw [bt_head_ge hk (by omega)]; rfl
        have := dg_at (Nat.le_refl (xB (s.extract 0 k))) (dg_ge _ _) key
        unfold xE; omega
    · simp only [hE]; rw [e5, bt_head_ge hk (by omega)]; rfl
  · have hp : pL s = xE s := by simp [pL, h, d]
    have d' := d
    simp only [hE, Bool.and_eq_true, decide_eq_true_iff] at d
    have ex : xB (s.extract 0 k) = xB s := by unfold xB; rw [e5, bt_head hk (show fE s + 1 < k by omega)]
    have ee : xE (s.extract 0 k) = xE s := by unfold xE; rw [ex]; exact head_dg hk (show xE s ≤ k by omega)
    refine ⟨?_, fun _ => ee⟩
    simp only [hE]; rw [e5, ex, ee, bt_head hk (show fE s < k by omega), d.1]; simp; omega

theorem extract_head {a b : Nat} (hb : b ≤ k) : (s.extract 0 k).extract a b = s.extract a b := by
  rw [ByteArray.extract_extract]; congr 1 <;> omega

/-- Cutting at or behind the numeral's end leaves the whole answer unchanged. -/
theorem head_all (hk : k ≤ s.size) (hl : pL s ≤ k) : kAll (s.extract 0 k) = kAll s := by
  cases h : okN s
  · rw [← all_none h, ← all_none (head_no hk h)]
  · obtain ⟨e1, e2, e3, e4, e5, e6⟩ := head_cuts hk h hl
    obtain ⟨e7, e8⟩ := head_exp hk h hl
    have p := fE_pos h
    have q := fE_le_pL h
    have a := wE_ge s
    have b := fB_ge s
    have c := fE_ge s
    cases d : hE s
    · rw [← all_full h d, ← all_full e6 (by rw [e7]; exact d)]
      simp only [kFull, e1, e2, e4, e5]
      rw [extract_head (by omega), extract_head (by omega), extract_head (by omega)]
    · have hp : pL s = xE s := by simp [pL, h, d]
      rw [← all_exp h d, ← all_exp e6 (by rw [e7]; exact d), e8 d]
      simp only [kExp, e1, e2, e4, e5]
      rw [extract_head (by omega), extract_head (by omega), extract_head (by omega), extract_head (by omega)]
end

theorem head_parts {s : ByteArray} {k : Nat} (hk : k ≤ s.size) (hl : pL s ≤ k) : pL (s.extract 0 k) = pL s ∧ pSign (s.extract 0 k) = pSign s ∧ pWhole (s.extract 0 k) = pWhole s ∧ pFrac (s.extract 0 k) = pFrac s ∧ pExp (s.extract 0 k) = pExp s := by
  have e := head_all hk hl
  simp only [kAll, Kept.mk.injEq] at e
  exact e

/-! ### The parts, as partsRebuild asks for them -/
theorem dg_part {s : ByteArray} {a b : Nat} (hb : b ≤ s.size) (h : ∀ j, a ≤ j → j < b → isD (bt s j) = true) : dg (s.extract a b) 0 = (s.extract a b).size := by
  rw [size_extract s a b hb]
  refine dg_eq ⟨Nat.zero_le _, fun j _ g => ?_, ?_⟩
  · rw [bt_extract hb (by omega)]; exact h _ (by omega) (by omega)
  · rw [bt_extract_ge hb (by omega)]; rfl

theorem one_byte {s : ByteArray} (h : 0 < s.size) : s.extract 0 1 = ⟨#[s[0]]⟩ := by
  apply ByteArray.ext
  apply Array.ext
  · simp; omega
  · intro i h1 h2
    simp at h2
    subst h2
    simp [ByteArray.getElem_eq_getElem_data]

theorem u8_of {x : UInt8} {n : Nat} (h : x.toNat = n) (hn : n < 256) : x = UInt8.ofNat n := by
  apply UInt8.toNat_inj.1
  rw [h]; simp; omega

theorem sign_shape (s : ByteArray) : s.extract 0 (sg s) = ⟨#[]⟩ ∨ s.extract 0 (sg s) = ⟨#[43]⟩ ∨ s.extract 0 (sg s) = ⟨#[45]⟩ := by
  cases h : isSg (bt s 0)
  · left; rw [sg0 h, extract_self]; rfl
  · have e : sg s = 1 := by simp [sg, h]
    have h0 : 0 < s.size := by have := sg_le s; omega
    rw [e, one_byte h0]
    right
    rw [isSg_iff, bt_lt h0] at h
    rcases h with h | h
    · left; rw [u8_of h (by omega)]; rfl
    · right; rw [u8_of h (by omega)]; rfl

end Go.Proofs.Qxb6628678a.Pl
