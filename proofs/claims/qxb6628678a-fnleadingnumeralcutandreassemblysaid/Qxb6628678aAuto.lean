/-
  THE AUTOMATON of the numeral language, plain: what holds in each of its nine states, each step, each end.
-/
import Derived.Test.Qxb6628678aPlain
namespace Go.Proofs.Qxb6628678a.Pl

/-- What is kept: the best length so far, and the four parts. -/
structure Kept where
  best : Nat
  bs : ByteArray
  bw : ByteArray
  bf : ByteArray
  be : ByteArray

def kNone : Kept := ⟨0, ByteArray.empty, ByteArray.empty, ByteArray.empty, ByteArray.empty⟩
def kWhole (s : ByteArray) (j : Nat) : Kept := ⟨j, s.extract 0 (sg s), s.extract (sg s) j, ByteArray.empty, ByteArray.empty⟩
def kDot (s : ByteArray) : Kept := ⟨wE s + 1, s.extract 0 (sg s), s.extract (sg s) (wE s), ByteArray.empty, ByteArray.empty⟩
def kFrac (s : ByteArray) (j : Nat) : Kept := ⟨j, s.extract 0 (sg s), s.extract (sg s) (wE s), s.extract (wE s + 1) j, ByteArray.empty⟩
def kFull (s : ByteArray) : Kept := ⟨fE s, s.extract 0 (sg s), s.extract (sg s) (wE s), s.extract (fB s) (fE s), ByteArray.empty⟩
def kExp (s : ByteArray) (j : Nat) : Kept := ⟨j, s.extract 0 (sg s), s.extract (sg s) (wE s), s.extract (fB s) (fE s), s.extract (fE s + 1) j⟩
def kAll (s : ByteArray) : Kept := ⟨pL s, pSign s, pWhole s, pFrac s, pExp s⟩

def dotI (s : ByteArray) : Int := if hD s then (wE s : Int) else -1

def I0 (_ : ByteArray) (j : Nat) (k : Kept) : Prop := j = 0 ∧ k = kNone
def I1 (s : ByteArray) (j : Nat) (k : Kept) : Prop := j = 1 ∧ sg s = 1 ∧ k = kNone
def I2 (s : ByteArray) (j : Nat) (k : Kept) : Prop := sg s < j ∧ j ≤ wE s ∧ k = kWhole s j
def I3 (s : ByteArray) (j : Nat) (k : Kept) : Prop := j = wE s + 1 ∧ wE s = sg s ∧ hD s = true ∧ k = kNone
def I4 (s : ByteArray) (j : Nat) (k : Kept) : Prop := j = wE s + 1 ∧ sg s < wE s ∧ hD s = true ∧ k = kDot s
def I5 (s : ByteArray) (j : Nat) (k : Kept) : Prop := wE s + 1 < j ∧ j ≤ fE s ∧ hD s = true ∧ k = kFrac s j
def I6 (s : ByteArray) (j : Nat) (k : Kept) : Prop := j = fE s + 1 ∧ okN s = true ∧ isEx (bt s (fE s)) = true ∧ k = kFull s
def I7 (s : ByteArray) (j : Nat) (k : Kept) : Prop := j = fE s + 2 ∧ isSg (bt s (fE s + 1)) = true ∧ okN s = true ∧ isEx (bt s (fE s)) = true ∧ k = kFull s
def I8 (s : ByteArray) (j : Nat) (k : Kept) : Prop := xB s < j ∧ j ≤ xE s ∧ okN s = true ∧ isEx (bt s (fE s)) = true ∧ k = kExp s j

theorem sgD {n : Nat} (h : isD n = true) : isSg n = false := by rw [isD_iff] at h; rw [isSg_not]; omega
theorem exD {n : Nat} (h : isEx n = true) : isD n = false := by rw [isEx_iff] at h; rw [isD_not]; omega
theorem dD {n : Nat} (h : n = 46) : isD n = false := by rw [isD_not]; omega

theorem fE_dot {s : ByteArray} (h : hD s = true) : fE s = dg s (wE s + 1) := by simp [fE, h]
theorem fB_dot {s : ByteArray} (h : hD s = true) : fB s = wE s + 1 := by simp [fB, h]
theorem fE_no {s : ByteArray} (h : hD s = false) : fE s = wE s := by simp [fE, h]
theorem fB_no {s : ByteArray} (h : hD s = false) : fB s = wE s := by simp [fB, h]

theorem isSg_int (n : Nat) : isSg n = (((n : Int) == 43) || ((n : Int) == 45)) := by
  rw [Bool.eq_iff_iff]; simp [isSg]; omega
theorem isEx_int (n : Nat) : isEx n = (((n : Int) == 101) || ((n : Int) == 69)) := by
  rw [Bool.eq_iff_iff]; simp [isEx]; omega

/-! ### The steps -/
theorem s01 {s : ByteArray} {j k} (h : I0 s j k) (c : isSg (bt s j) = true) : I1 s (j + 1) k := by
  obtain ⟨rfl, rfl⟩ := h; exact ⟨rfl, by simp [sg, c], rfl⟩
theorem sg0 {s : ByteArray} (c : isSg (bt s 0) = false) : sg s = 0 := by simp [sg, c]
theorem s02 {s : ByteArray} {j k} (h : I0 s j k) (c : isD (bt s j) = true) : I2 s (j + 1) (kWhole s (j + 1)) ∧ sg s = 0 := by
  obtain ⟨rfl, rfl⟩ := h
  have e := sg0 (sgD c)
  refine ⟨⟨by omega, ?_, rfl⟩, e⟩
  exact dg_in (by omega) (by omega) c
theorem s03 {s : ByteArray} {j k} (h : I0 s j k) (c : bt s j = 46) : I3 s (j + 1) k ∧ sg s = 0 := by
  obtain ⟨rfl, rfl⟩ := h
  have e := sg0 (s := s) (by rw [isSg_not]; omega)
  have w : 0 = wE s := dg_at (by omega) (by omega) (dD c)
  exact ⟨⟨by omega, by omega, by simp [hD, ← w, c], rfl⟩, e⟩
theorem s12 {s : ByteArray} {j k} (h : I1 s j k) (c : isD (bt s j) = true) : I2 s (j + 1) (kWhole s (j + 1)) := by
  obtain ⟨rfl, e, rfl⟩ := h
  exact ⟨by omega, dg_in (by omega) (by have := wE_ge s; unfold wE at this; omega) c, rfl⟩
theorem s13 {s : ByteArray} {j k} (h : I1 s j k) (c : bt s j = 46) : I3 s (j + 1) k := by
  obtain ⟨rfl, e, rfl⟩ := h
  have w : 1 = wE s := dg_at (by omega) (by have := wE_ge s; unfold wE at this; omega) (dD c)
  exact ⟨by omega, by omega, by simp [hD, ← w, c], rfl⟩
theorem s22 {s : ByteArray} {j k} (h : I2 s j k) (c : isD (bt s j) = true) : I2 s (j + 1) (kWhole s (j + 1)) := by
  obtain ⟨a, b, rfl⟩ := h
  exact ⟨by omega, dg_in (by omega) b c, rfl⟩
theorem at2 {s : ByteArray} {j k} (h : I2 s j k) (c : isD (bt s j) = false) : j = wE s := dg_at (by have := h.1; omega) h.2.1 c
theorem s24 {s : ByteArray} {j k} (h : I2 s j k) (c : bt s j = 46) : I4 s (j + 1) (kDot s) ∧ j = wE s := by
  have w := at2 h (dD c)
  obtain ⟨a, b, rfl⟩ := h
  exact ⟨⟨by omega, by omega, by simp [hD, ← w, c], rfl⟩, w⟩
theorem ok_of_whole {s : ByteArray} (h : sg s < wE s) : okN s = true := by simp [okN, h]
theorem ok_of_frac {s : ByteArray} (h : fB s < fE s) : okN s = true := by simp [okN, h]
theorem s26 {s : ByteArray} {j k} (h : I2 s j k) (c : isEx (bt s j) = true) : I6 s (j + 1) k ∧ hD s = false ∧ j = fE s := by
  have w := at2 h (exD c)
  obtain ⟨a, b, rfl⟩ := h
  have d : hD s = false := by simp [hD, ← w]; rw [isEx_iff] at c; omega
  have f := fE_no d
  refine ⟨⟨by omega, ok_of_whole (by omega), by rw [f, ← w]; exact c, ?_⟩, d, by omega⟩
  simp only [kWhole, kFull, f, fB_no d, extract_self, w]
theorem s35 {s : ByteArray} {j k} (h : I3 s j k) (c : isD (bt s j) = true) : I5 s (j + 1) (kFrac s (j + 1)) := by
  obtain ⟨rfl, b, d, rfl⟩ := h
  exact ⟨by omega, by rw [fE_dot d]; exact dg_in (by omega) (dg_ge _ _) c, d, rfl⟩
theorem s45 {s : ByteArray} {j k} (h : I4 s j k) (c : isD (bt s j) = true) : I5 s (j + 1) (kFrac s (j + 1)) := by
  obtain ⟨rfl, b, d, rfl⟩ := h
  exact ⟨by omega, by rw [fE_dot d]; exact dg_in (by omega) (dg_ge _ _) c, d, rfl⟩
theorem at4 {s : ByteArray} {j k} (h : I4 s j k) (c : isD (bt s j) = false) : j = fE s := by
  obtain ⟨rfl, b, d, rfl⟩ := h
  rw [fE_dot d]; exact dg_at (by omega) (dg_ge _ _) c
theorem s46 {s : ByteArray} {j k} (h : I4 s j k) (c : isEx (bt s j) = true) : I6 s (j + 1) k ∧ j = fE s := by
  have w := at4 h (exD c)
  obtain ⟨e, b, d, rfl⟩ := h
  refine ⟨⟨by omega, ok_of_whole (by omega), by rw [← w]; exact c, ?_⟩, w⟩
  simp only [kDot, kFull, fB_dot d, ← w, ← e, extract_self]
theorem s55 {s : ByteArray} {j k} (h : I5 s j k) (c : isD (bt s j) = true) : I5 s (j + 1) (kFrac s (j + 1)) := by
  obtain ⟨a, b, d, rfl⟩ := h
  exact ⟨by omega, by rw [fE_dot d] at *; exact dg_in (by omega) b c, d, rfl⟩
theorem at5 {s : ByteArray} {j k} (h : I5 s j k) (c : isD (bt s j) = false) : j = fE s := by
  obtain ⟨a, b, d, rfl⟩ := h
  rw [fE_dot d] at *; exact dg_at (by omega) b c
theorem s56 {s : ByteArray} {j k} (h : I5 s j k) (c : isEx (bt s j) = true) : I6 s (j + 1) k ∧ j = fE s := by
  have w := at5 h (exD c)
  obtain ⟨a, b, d, rfl⟩ := h
  refine ⟨⟨by omega, ok_of_frac (by rw [fB_dot d]; omega), by rw [← w]; exact c, ?_⟩, w⟩
  simp only [kFrac, kFull, fB_dot d, ← w]
theorem s67 {s : ByteArray} {j k} (h : I6 s j k) (c : isSg (bt s j) = true) : I7 s (j + 1) k := by
  obtain ⟨rfl, a, b, rfl⟩ := h
  exact ⟨rfl, c, a, b, rfl⟩
theorem xB_no {s : ByteArray} (h : isSg (bt s (fE s + 1)) = false) : xB s = fE s + 1 := by simp [xB, h]
theorem xB_sg {s : ByteArray} (h : isSg (bt s (fE s + 1)) = true) : xB s = fE s + 2 := by simp [xB, h]
theorem s68 {s : ByteArray} {j k} (h : I6 s j k) (c : isD (bt s j) = true) : I8 s (j + 1) (kExp s (j + 1)) := by
  obtain ⟨rfl, a, b, rfl⟩ := h
  have e := xB_no (sgD c)
  exact ⟨by omega, dg_in (by omega) (by have := xE_ge s; unfold xE at this; omega) c, a, b, rfl⟩
theorem s78 {s : ByteArray} {j k} (h : I7 s j k) (c : isD (bt s j) = true) : I8 s (j + 1) (kExp s (j + 1)) := by
  obtain ⟨rfl, g, a, b, rfl⟩ := h
  have e := xB_sg g
  exact ⟨by omega, dg_in (by omega) (by have := xE_ge s; unfold xE at this; omega) c, a, b, rfl⟩
theorem s88 {s : ByteArray} {j k} (h : I8 s j k) (c : isD (bt s j) = true) : I8 s (j + 1) (kExp s (j + 1)) := by
  obtain ⟨x, y, a, b, rfl⟩ := h
  exact ⟨by omega, dg_in (by omega) y c, a, b, rfl⟩

/-! ### The ends: no step fits (beyond the last byte none does). -/
theorem all_none {s : ByteArray} (h : okN s = false) : kNone = kAll s := by simp [kAll, kNone, pL, pSign, pWhole, pFrac, pExp, h]
theorem all_full {s : ByteArray} (h : okN s = true) (g : hE s = false) : kFull s = kAll s := by simp [kAll, kFull, pL, pSign, pWhole, pFrac, pExp, h, g]
theorem all_exp {s : ByteArray} (h : okN s = true) (g : hE s = true) : kExp s (xE s) = kAll s := by simp [kAll, kExp, pL, pSign, pWhole, pFrac, pExp, h, g]
theorem ok_not {s : ByteArray} (a : wE s = sg s) (b : fB s = fE s) : okN s = false := by simp [okN, a, b]
theorem hE_not {s : ByteArray} (h : isEx (bt s (fE s)) = false) : hE s = false := by simp [hE, h]

theorem e0 {s : ByteArray} {j k} (h : I0 s j k) (c1 : isSg (bt s j) = false) (c2 : isD (bt s j) = false) (c3 : bt s j ≠ 46) : k = kAll s := by
  obtain ⟨rfl, rfl⟩ := h
  have e := sg0 c1
  have w : 0 = wE s := dg_at (by omega) (by omega) c2
  have d : hD s = false := by simp [hD, ← w, c3]
  exact all_none (ok_not (by omega) (by rw [fB_no d, fE_no d]))
theorem e1 {s : ByteArray} {j k} (h : I1 s j k) (c2 : isD (bt s j) = false) (c3 : bt s j ≠ 46) : k = kAll s := by
  obtain ⟨rfl, e, rfl⟩ := h
  have w : 1 = wE s := dg_at (by omega) (by have := wE_ge s; unfold wE at this; omega) c2
  have d : hD s = false := by simp [hD, ← w, c3]
  exact all_none (ok_not (by omega) (by rw [fB_no d, fE_no d]))
theorem e2 {s : ByteArray} {j k} (h : I2 s j k) (c2 : isD (bt s j) = false) (c3 : bt s j ≠ 46) (c4 : isEx (bt s j) = false) : k = kAll s := by
  have w := at2 h c2
  obtain ⟨a, b, rfl⟩ := h
  have d : hD s = false := by simp [hD, ← w, c3]
  have f := fE_no d
  rw [← all_full (ok_of_whole (by omega)) (hE_not (by rw [f, ← w]; exact c4))]
  simp only [kWhole, kFull, f, fB_no d, extract_self, w]
theorem e3 {s : ByteArray} {j k} (h : I3 s j k) (c2 : isD (bt s j) = false) : k = kAll s := by
  obtain ⟨rfl, b, d, rfl⟩ := h
  have f : wE s + 1 = fE s := by rw [fE_dot d]; exact dg_at (by omega) (dg_ge _ _) c2
  exact all_none (ok_not b (by rw [fB_dot d, f]))
theorem e4 {s : ByteArray} {j k} (h : I4 s j k) (c2 : isD (bt s j) = false) (c4 : isEx (bt s j) = false) : k = kAll s := by
  have w := at4 h c2
  obtain ⟨e, b, d, rfl⟩ := h
  rw [← all_full (ok_of_whole b) (hE_not (by rw [← w]; exact c4))]
  simp only [kDot, kFull, fB_dot d, ← w, ← e, extract_self]
theorem e5 {s : ByteArray} {j k} (h : I5 s j k) (c2 : isD (bt s j) = false) (c4 : isEx (bt s j) = false) : k = kAll s := by
  have w := at5 h c2
  obtain ⟨a, b, d, rfl⟩ := h
  rw [← all_full (ok_of_frac (by rw [fB_dot d]; omega)) (hE_not (by rw [← w]; exact c4))]
  simp only [kFrac, kFull, fB_dot d, ← w]
theorem e6 {s : ByteArray} {j k} (h : I6 s j k) (c1 : isSg (bt s j) = false) (c2 : isD (bt s j) = false) : k = kAll s := by
  obtain ⟨rfl, a, b, rfl⟩ := h
  have x := xB_no c1
  have y : xB s = xE s := dg_at (Nat.le_refl _) (dg_ge _ _) (by rw [x]; exact c2)
  exact all_full a (by simp [hE, y])
theorem e7 {s : ByteArray} {j k} (h : I7 s j k) (c2 : isD (bt s j) = false) : k = kAll s := by
  obtain ⟨rfl, g, a, b, rfl⟩ := h
  have x := xB_sg g
  have y : xB s = xE s := dg_at (Nat.le_refl _) (dg_ge _ _) (by rw [x]; exact c2)
  exact all_full a (by simp [hE, y])
theorem e8 {s : ByteArray} {j k} (h : I8 s j k) (c2 : isD (bt s j) = false) : k = kAll s := by
  obtain ⟨x, y, a, b, rfl⟩ := h
  have w : j = xE s := dg_at (by omega) y c2
  rw [w, all_exp a (by simp [hE, b]; omega)]

end Go.Proofs.Qxb6628678a.Pl
