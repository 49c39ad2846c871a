/-
  THE AUTOMATON, its next state as one function, and its whole invariant: plain.
-/
import Derived.Test.Qxb6628678aAuto
namespace Go.Proofs.Qxb6628678a.Pl

def isP (n : Nat) : Bool := decide (n = 46)
theorem isP_int (n : Nat) : ((n : Int) == 46) = isP n := by rw [Bool.eq_iff_iff]; simp [isP]; omega
theorem isP_iff {n : Nat} : isP n = true ↔ n = 46 := by simp [isP]

def nx (q c : Nat) : Int :=
  match q with
  | 0 => if isSg c then 1 else if isD c then 2 else if isP c then 3 else -1
  | 1 => if isD c then 2 else if isP c then 3 else -1
  | 2 => if isD c then 2 else if isP c then 4 else if isEx c then 6 else -1
  | 3 => if isD c then 5 else -1
  | 4 => if isD c then 5 else if isEx c then 6 else -1
  | 5 => if isD c then 5 else if isEx c then 6 else -1
  | 6 => if isSg c then 7 else if isD c then 8 else -1
  | 7 => if isD c then 8 else -1
  | 8 => if isD c then 8 else -1
  | _ => -1

def Inv (s : ByteArray) (q j sl : Nat) (dot epos : Int) (k : Kept) : Prop :=
  (q = 0 ∧ sl = 0 ∧ dot = -1 ∧ epos = -1 ∧ I0 s j k) ∨
  (q = 1 ∧ sl = sg s ∧ dot = -1 ∧ epos = -1 ∧ I1 s j k) ∨
  (q = 2 ∧ sl = sg s ∧ dot = -1 ∧ epos = -1 ∧ I2 s j k) ∨
  (q = 3 ∧ sl = sg s ∧ dot = wE s ∧ epos = -1 ∧ I3 s j k) ∨
  (q = 4 ∧ sl = sg s ∧ dot = wE s ∧ epos = -1 ∧ I4 s j k) ∨
  (q = 5 ∧ sl = sg s ∧ dot = wE s ∧ epos = -1 ∧ I5 s j k) ∨
  (q = 6 ∧ sl = sg s ∧ dot = dotI s ∧ epos = fE s ∧ I6 s j k) ∨
  (q = 7 ∧ sl = sg s ∧ dot = dotI s ∧ epos = fE s ∧ I7 s j k) ∨
  (q = 8 ∧ sl = sg s ∧ dot = dotI s ∧ epos = fE s ∧ I8 s j k)

theorem Inv.start (s : ByteArray) : Inv s 0 0 0 (-1) (-1) kNone := Or.inl ⟨rfl, rfl, rfl, rfl, rfl, rfl⟩

theorem Inv.q_le {s : ByteArray} {q j sl : Nat} {dot epos : Int} {k : Kept} (h : Inv s q j sl dot epos k) : q ≤ 8 := by
  unfold Inv at h; omega

theorem dotI_dot {s : ByteArray} (h : hD s = true) : dotI s = wE s := by simp [dotI, h]
theorem dotI_no {s : ByteArray} (h : hD s = false) : dotI s = -1 := by simp [dotI, h]

/-- What a step to state n leaves. -/
def Next (s : ByteArray) (j sl : Nat) (dot epos : Int) (k : Kept) (n : Int) : Prop :=
  (n = -1 ∧ k = kAll s) ∨
  (n = 1 ∧ bt s j ≠ 46 ∧ Inv s 1 (j + 1) 1 dot epos k) ∨
  (n = 2 ∧ bt s j ≠ 46 ∧ sl = sg s ∧ sg s ≤ j ∧ Inv s 2 (j + 1) sl dot epos (kWhole s (j + 1))) ∨
  (n = 3 ∧ bt s j = 46 ∧ Inv s 3 (j + 1) sl j epos k) ∨
  (n = 4 ∧ bt s j = 46 ∧ sl = sg s ∧ sg s ≤ j ∧ j = wE s ∧ Inv s 4 (j + 1) sl j epos (kDot s)) ∨
  (n = 5 ∧ bt s j ≠ 46 ∧ sl = sg s ∧ dot = wE s ∧ wE s + 1 ≤ j ∧ Inv s 5 (j + 1) sl dot epos (kFrac s (j + 1))) ∨
  (n = 6 ∧ bt s j ≠ 46 ∧ Inv s 6 (j + 1) sl dot j k) ∨
  (n = 7 ∧ bt s j ≠ 46 ∧ Inv s 7 (j + 1) sl dot epos k) ∨
  (n = 8 ∧ bt s j ≠ 46 ∧ sl = sg s ∧ dot = dotI s ∧ epos = fE s ∧ fE s + 1 ≤ j ∧ Inv s 8 (j + 1) sl dot epos (kExp s (j + 1)))

theorem dD' {n : Nat} (h : isD n = true) : n ≠ 46 := by rw [isD_iff] at h; omega
theorem sD' {n : Nat} (h : isSg n = true) : n ≠ 46 := by rw [isSg_iff] at h; omega
theorem xD' {n : Nat} (h : isEx n = true) : n ≠ 46 := by rw [isEx_iff] at h; omega

theorem N1 {s : ByteArray} {j sl : Nat} {dot epos : Int} {k : Kept} (a : bt s j ≠ 46) (h : Inv s 1 (j + 1) 1 dot epos k) : Next s j sl dot epos k 1 := Or.inr (Or.inl ⟨rfl, a, h⟩)
theorem N2 {s : ByteArray} {j sl : Nat} {dot epos : Int} {k : Kept} (a : bt s j ≠ 46) (b : sl = sg s) (c : sg s ≤ j) (h : Inv s 2 (j + 1) sl dot epos (kWhole s (j + 1))) : Next s j sl dot epos k 2 := Or.inr (Or.inr (Or.inl ⟨rfl, a, b, c, h⟩))
theorem N3 {s : ByteArray} {j sl : Nat} {dot epos : Int} {k : Kept} (a : bt s j = 46) (h : Inv s 3 (j + 1) sl j epos k) : Next s j sl dot epos k 3 := Or.inr (Or.inr (Or.inr (Or.inl ⟨rfl, a, h⟩)))
theorem N4 {s : ByteArray} {j sl : Nat} {dot epos : Int} {k : Kept} (a : bt s j = 46) (b : sl = sg s) (c : sg s ≤ j) (d : j = wE s) (h : Inv s 4 (j + 1) sl j epos (kDot s)) : Next s j sl dot epos k 4 := Or.inr (Or.inr (Or.inr (Or.inr (Or.inl ⟨rfl, a, b, c, d, h⟩))))
theorem N5 {s : ByteArray} {j sl : Nat} {dot epos : Int} {k : Kept} (a : bt s j ≠ 46) (b : sl = sg s) (c : dot = wE s) (d : wE s + 1 ≤ j) (h : Inv s 5 (j + 1) sl dot epos (kFrac s (j + 1))) : Next s j sl dot epos k 5 := Or.inr (Or.inr (Or.inr (Or.inr (Or.inr (Or.inl ⟨rfl, a, b, c, d, h⟩)))))
theorem N6 {s : ByteArray} {j sl : Nat} {dot epos : Int} {k : Kept} (a : bt s j ≠ 46) (h : Inv s 6 (j + 1) sl dot j k) : Next s j sl dot epos k 6 := Or.inr (Or.inr (Or.inr (Or.inr (Or.inr (Or.inr (Or.inl ⟨rfl, a, h⟩))))))
theorem N7 {s : ByteArray} {j sl : Nat} {dot epos : Int} {k : Kept} (a : bt s j ≠ 46) (h : Inv s 7 (j + 1) sl dot epos k) : Next s j sl dot epos k 7 := Or.inr (Or.inr (Or.inr (Or.inr (Or.inr (Or.inr (Or.inr (Or.inl ⟨rfl, a, h⟩)))))))
theorem N8 {s : ByteArray} {j sl : Nat} {dot epos : Int} {k : Kept} (a : bt s j ≠ 46) (b : sl = sg s) (c : dot = dotI s) (d : epos = fE s) (e : fE s + 1 ≤ j) (h : Inv s 8 (j + 1) sl dot epos (kExp s (j + 1))) : Next s j sl dot epos k 8 := Or.inr (Or.inr (Or.inr (Or.inr (Or.inr (Or.inr (Or.inr (Or.inr ⟨rfl, a, b, c, d, e, h⟩)))))))
theorem V1 {s : ByteArray} {j sl : Nat} {dot epos : Int} {k : Kept} (a : sl = sg s) (b : dot = -1) (c : epos = -1) (h : I1 s j k) : Inv s 1 j sl dot epos k := Or.inr (Or.inl ⟨rfl, a, b, c, h⟩)
theorem V2 {s : ByteArray} {j sl : Nat} {dot epos : Int} {k : Kept} (a : sl = sg s) (b : dot = -1) (c : epos = -1) (h : I2 s j k) : Inv s 2 j sl dot epos k := Or.inr (Or.inr (Or.inl ⟨rfl, a, b, c, h⟩))
theorem V3 {s : ByteArray} {j sl : Nat} {dot epos : Int} {k : Kept} (a : sl = sg s) (b : dot = wE s) (c : epos = -1) (h : I3 s j k) : Inv s 3 j sl dot epos k := Or.inr (Or.inr (Or.inr (Or.inl ⟨rfl, a, b, c, h⟩)))
theorem V4 {s : ByteArray} {j sl : Nat} {dot epos : Int} {k : Kept} (a : sl = sg s) (b : dot = wE s) (c : epos = -1) (h : I4 s j k) : Inv s 4 j sl dot epos k := Or.inr (Or.inr (Or.inr (Or.inr (Or.inl ⟨rfl, a, b, c, h⟩))))
theorem V5 {s : ByteArray} {j sl : Nat} {dot epos : Int} {k : Kept} (a : sl = sg s) (b : dot = wE s) (c : epos = -1) (h : I5 s j k) : Inv s 5 j sl dot epos k := Or.inr (Or.inr (Or.inr (Or.inr (Or.inr (Or.inl ⟨rfl, a, b, c, h⟩)))))
theorem V6 {s : ByteArray} {j sl : Nat} {dot epos : Int} {k : Kept} (a : sl = sg s) (b : dot = dotI s) (c : epos = fE s) (h : I6 s j k) : Inv s 6 j sl dot epos k := Or.inr (Or.inr (Or.inr (Or.inr (Or.inr (Or.inr (Or.inl ⟨rfl, a, b, c, h⟩))))))
theorem V7 {s : ByteArray} {j sl : Nat} {dot epos : Int} {k : Kept} (a : sl = sg s) (b : dot = dotI s) (c : epos = fE s) (h : I7 s j k) : Inv s 7 j sl dot epos k := Or.inr (Or.inr (Or.inr (Or.inr (Or.inr (Or.inr (Or.inr (Or.inl ⟨rfl, a, b, c, h⟩)))))))
theorem V8 {s : ByteArray} {j sl : Nat} {dot epos : Int} {k : Kept} (a : sl = sg s) (b : dot = dotI s) (c : epos = fE s) (h : I8 s j k) : Inv s 8 j sl dot epos k := Or.inr (Or.inr (Or.inr (Or.inr (Or.inr (Or.inr (Or.inr (Or.inr ⟨rfl, a, b, c, h⟩)))))))

theorem bf {b : Bool} (h : ¬ b = true) : b = false := Bool.eq_false_iff.2 h

theorem Inv.next {s : ByteArray} {q j sl : Nat} {dot epos : Int} {k : Kept} (h : Inv s q j sl dot epos k) : Next s j sl dot epos k (nx q (bt s j)) := by
  rcases h with ⟨rfl, e1, e2, e3, h⟩ | ⟨rfl, e1, e2, e3, h⟩ | ⟨rfl, e1, e2, e3, h⟩ | ⟨rfl, e1, e2, e3, h⟩ | ⟨rfl, e1, e2, e3, h⟩ | ⟨rfl, e1, e2, e3, h⟩ | ⟨rfl, e1, e2, e3, h⟩ | ⟨rfl, e1, e2, e3, h⟩ | ⟨rfl, e1, e2, e3, h⟩
  · simp only [nx]
    by_cases c1 : isSg (bt s j) = true
    · rw [if_pos c1]
      have g := s01 h c1
      exact N1 (sD' c1) (V1 (by rw [g.2.1]) e2 e3 g)
    · rw [if_neg c1]
      by_cases c2 : isD (bt s j) = true
      · rw [if_pos c2]
        have g := s02 h c2
        exact N2 (dD' c2) (by rw [e1, g.2]) (by have := h.1; have := g.2; omega) (V2 (by rw [e1, g.2]) e2 e3 g.1)
      · rw [if_neg c2]
        by_cases c3' : isP (bt s j) = true
        · rw [if_pos c3']
          have c3 := isP_iff.1 c3'
          have g := s03 h c3
          exact N3 c3 (V3 (by rw [e1, g.2]) (by have := g.1.1; omega) e3 g.1)
        · rw [if_neg c3']
          have c3 : ¬ bt s j = 46 := fun e => c3' (isP_iff.2 e)
          exact Or.inl ⟨rfl, e0 h (bf c1) (bf c2) c3⟩
  · simp only [nx]
    by_cases c2 : isD (bt s j) = true
    · rw [if_pos c2]
      have g := s12 h c2
      exact N2 (dD' c2) e1 (by have := h.1; have := h.2.1; omega) (V2 e1 e2 e3 g)
    · rw [if_neg c2]
      by_cases c3' : isP (bt s j) = true
      · rw [if_pos c3']
        have c3 := isP_iff.1 c3'
        have g := s13 h c3
        exact N3 c3 (V3 e1 (by have := g.1; omega) e3 g)
      · rw [if_neg c3']
        have c3 : ¬ bt s j = 46 := fun e => c3' (isP_iff.2 e)
        exact Or.inl ⟨rfl, Pl.e1 h (bf c2) c3⟩
  · simp only [nx]
    by_cases c2 : isD (bt s j) = true
    · rw [if_pos c2]
      have g := s22 h c2
      exact N2 (dD' c2) e1 (by have := h.1; omega) (V2 e1 e2 e3 g)
    · rw [if_neg c2]
      by_cases c3' : isP (bt s j) = true
      · rw [if_pos c3']
        have c3 := isP_iff.1 c3'
        have g := s24 h c3
        exact N4 c3 e1 (by have := h.1; omega) g.2 (V4 e1 (by rw [← g.2]) e3 g.1)
      · rw [if_neg c3']
        have c3 : ¬ bt s j = 46 := fun e => c3' (isP_iff.2 e)
        by_cases c4 : isEx (bt s j) = true
        · rw [if_pos c4]
          have g := s26 h c4
          exact N6 c3 (V6 e1 (by rw [e2, dotI_no g.2.1]) (by rw [← g.2.2]) g.1)
        · rw [if_neg c4]
          exact Or.inl ⟨rfl, Pl.e2 h (bf c2) c3 (bf c4)⟩
  · simp only [nx]
    by_cases c2 : isD (bt s j) = true
    · rw [if_pos c2]
      have g := s35 h c2
      exact N5 (dD' c2) e1 e2 (by have := h.1; omega) (V5 e1 e2 e3 g)
    · rw [if_neg c2]
      exact Or.inl ⟨rfl, Pl.e3 h (bf c2)⟩
  · simp only [nx]
    by_cases c2 : isD (bt s j) = true
    · rw [if_pos c2]
      have g := s45 h c2
      exact N5 (dD' c2) e1 e2 (by have := h.1; omega) (V5 e1 e2 e3 g)
    · rw [if_neg c2]
      by_cases c4 : isEx (bt s j) = true
      · rw [if_pos c4]
        have g := s46 h c4
        exact N6 (xD' c4) (V6 e1 (by rw [e2, dotI_dot h.2.2.1]) (by rw [← g.2]) g.1)
      · rw [if_neg c4]
        exact Or.inl ⟨rfl, Pl.e4 h (bf c2) (bf c4)⟩
  · simp only [nx]
    by_cases c2 : isD (bt s j) = true
    · rw [if_pos c2]
      have g := s55 h c2
      exact N5 (dD' c2) e1 e2 (by have := h.1; omega) (V5 e1 e2 e3 g)
    · rw [if_neg c2]
      by_cases c4 : isEx (bt s j) = true
      · rw [if_pos c4]
        have g := s56 h c4
        exact N6 (xD' c4) (V6 e1 (by rw [e2, dotI_dot h.2.2.1]) (by rw [← g.2]) g.1)
      · rw [if_neg c4]
        exact Or.inl ⟨rfl, Pl.e5 h (bf c2) (bf c4)⟩
  · simp only [nx]
    by_cases c1 : isSg (bt s j) = true
    · rw [if_pos c1]
      exact N7 (sD' c1) (V7 e1 e2 e3 (s67 h c1))
    · rw [if_neg c1]
      by_cases c2 : isD (bt s j) = true
      · rw [if_pos c2]
        exact N8 (dD' c2) e1 e2 e3 (by have := h.1; omega) (V8 e1 e2 e3 (s68 h c2))
      · rw [if_neg c2]
        exact Or.inl ⟨rfl, Pl.e6 h (bf c1) (bf c2)⟩
  · simp only [nx]
    by_cases c2 : isD (bt s j) = true
    · rw [if_pos c2]
      exact N8 (dD' c2) e1 e2 e3 (by have := h.1; omega) (V8 e1 e2 e3 (s78 h c2))
    · rw [if_neg c2]
      exact Or.inl ⟨rfl, Pl.e7 h (bf c2)⟩
  · simp only [nx]
    by_cases c2 : isD (bt s j) = true
    · rw [if_pos c2]
      exact N8 (dD' c2) e1 e2 e3 (by have := h.1; have := xB_ge s; omega) (V8 e1 e2 e3 (s88 h c2))
    · rw [if_neg c2]
      exact Or.inl ⟨rfl, Pl.e8 h (bf c2)⟩

theorem nx_end (q : Nat) : nx q 256 = -1 := by
  unfold nx; split <;> rfl

theorem Inv.last {s : ByteArray} {q j sl : Nat} {dot epos : Int} {k : Kept} (h : Inv s q j sl dot epos k) (e : s.size ≤ j) : k = kAll s := by
  have g := h.next
  rw [bt_ge e, nx_end] at g
  rcases g with g | g | g | g | g | g | g | g | g
  · exact g.2
  all_goals (have := g.1; omega)

theorem Inv.at_dot {s : ByteArray} {q j sl : Nat} {dot epos : Int} {k : Kept} (h : Inv s q j sl dot epos k) : -1 ≤ dot ∧ dot ≤ s.size ∧ -1 ≤ epos ∧ epos ≤ s.size ∧ sl ≤ s.size := by
  have a := wE_le s
  have b := fE_le s
  have c := sg_le s
  have d : -1 ≤ dotI s ∧ dotI s ≤ s.size := by unfold dotI; split <;> omega
  unfold Inv at h; omega

end Go.Proofs.Qxb6628678a.Pl
