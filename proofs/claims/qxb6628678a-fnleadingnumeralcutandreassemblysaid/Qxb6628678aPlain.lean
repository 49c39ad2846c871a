/-
  THE PLAIN SIDE of seat b6628678a: no Go in sight. Bytes of a string by index (256 beyond the end), the end of a run of digits, the parts of a leading numeral, and the automaton's invariants.
-/
namespace Go.Proofs.Qxb6628678a.Pl

def bt (s : ByteArray) (k : Nat) : Nat := if h : k < s.size then s[k].toNat else 256

theorem bt_lt {s : ByteArray} {k : Nat} (h : k < s.size) : bt s k = s[k].toNat := by simp [bt, h]
theorem bt_ge {s : ByteArray} {k : Nat} (h : s.size ≤ k) : bt s k = 256 := by simp [bt, Nat.not_lt.2 h]
theorem lt_of_bt {s : ByteArray} {k : Nat} (h : bt s k < 256) : k < s.size := by
  by_cases c : k < s.size
  · exact c
  · have := bt_ge (Nat.le_of_not_lt c); omega

def isD (n : Nat) : Bool := decide (48 ≤ n) && decide (n ≤ 57)
theorem isD_iff {n : Nat} : isD n = true ↔ 48 ≤ n ∧ n ≤ 57 := by simp [isD]
theorem isD_not {n : Nat} : isD n = false ↔ n < 48 ∨ 57 < n := by simp [isD]; omega
theorem lt_of_isD {s : ByteArray} {k : Nat} (h : isD (bt s k) = true) : k < s.size := lt_of_bt (by rw [isD_iff] at h; omega)

def dgF (s : ByteArray) : Nat → Nat → Nat
  | 0, i => i
  | f + 1, i => if isD (bt s i) then dgF s f (i + 1) else i
/-- Where the digits that stand at i end. -/
def dg (s : ByteArray) (i : Nat) : Nat := dgF s (s.size - i) i

structure DG (s : ByteArray) (i e : Nat) : Prop where
  le : i ≤ e
  run : ∀ k, i ≤ k → k < e → isD (bt s k) = true
  stop : isD (bt s e) = false

theorem dgF_DG (s : ByteArray) : ∀ f i, s.size ≤ i + f → DG s i (dgF s f i)
  | 0, i, h => ⟨Nat.le_refl _, fun k a b => absurd (Nat.lt_of_le_of_lt a b) (Nat.lt_irrefl _), by simp only [dgF]; rw [bt_ge (by omega)]; rfl⟩
  | f + 1, i, h => by
    simp only [dgF]
    cases c : isD (bt s i)
    · exact ⟨Nat.le_refl _, fun k a b => absurd (Nat.lt_of_le_of_lt a b) (Nat.lt_irrefl _), c⟩
    · have ih := dgF_DG s f (i + 1) (by omega)
      exact ⟨by have := ih.le; simp; omega, fun k a b => by
        by_cases e : k = i
        · rw [e]; exact c
        · exact ih.run k (by omega) b, ih.stop⟩

theorem dg_DG (s : ByteArray) (i : Nat) : DG s i (dg s i) := dgF_DG s _ i (by omega)

theorem DG.uniq {s : ByteArray} {i e f : Nat} (h : DG s i e) (g : DG s i f) : e = f := by
  rcases Nat.lt_trichotomy e f with c | c | c
  · have := g.run e h.le c; rw [h.stop] at this; cases this
  · exact c
  · have := h.run f g.le c; rw [g.stop] at this; cases this

theorem DG.le_size {s : ByteArray} {i e : Nat} (h : DG s i e) (hi : i ≤ s.size) : e ≤ s.size := by
  by_cases c : e ≤ s.size
  · exact c
  · have := lt_of_isD (h.run (e - 1) (by omega) (by omega)); omega

theorem dg_ge (s : ByteArray) (i : Nat) : i ≤ dg s i := (dg_DG s i).le
theorem dg_le (s : ByteArray) (i : Nat) (h : i ≤ s.size) : dg s i ≤ s.size := (dg_DG s i).le_size h
theorem dg_eq {s : ByteArray} {i e : Nat} (h : DG s i e) : dg s i = e := (dg_DG s i).uniq h

/-- A place inside the run, or at its end: a digit stands there just where it is inside. -/
theorem dg_in {s : ByteArray} {i k : Nat} (_a : i ≤ k) (b : k ≤ dg s i) (h : isD (bt s k) = true) : k + 1 ≤ dg s i := by
  by_cases c : k = dg s i
  · rw [c, (dg_DG s i).stop] at h; cases h
  · omega
theorem dg_at {s : ByteArray} {i k : Nat} (a : i ≤ k) (b : k ≤ dg s i) (h : isD (bt s k) = false) : k = dg s i := by
  by_cases c : k < dg s i
  · rw [(dg_DG s i).run k a c] at h; cases h
  · omega

def isSg (n : Nat) : Bool := decide (n = 43) || decide (n = 45)
def isEx (n : Nat) : Bool := decide (n = 101) || decide (n = 69)
theorem isSg_iff {n : Nat} : isSg n = true ↔ n = 43 ∨ n = 45 := by simp [isSg]
theorem isSg_not {n : Nat} : isSg n = false ↔ n ≠ 43 ∧ n ≠ 45 := by simp [isSg]
theorem isEx_iff {n : Nat} : isEx n = true ↔ n = 101 ∨ n = 69 := by simp [isEx]
theorem isEx_not {n : Nat} : isEx n = false ↔ n ≠ 101 ∧ n ≠ 69 := by simp [isEx]

/-! The cuts of a leading numeral. -/
def sg (s : ByteArray) : Nat := if isSg (bt s 0) then 1 else 0
def wE (s : ByteArray) : Nat := dg s (sg s)
def hD (s : ByteArray) : Bool := decide (bt s (wE s) = 46)
def fB (s : ByteArray) : Nat := if hD s then wE s + 1 else wE s
def fE (s : ByteArray) : Nat := if hD s then dg s (wE s + 1) else wE s
def okN (s : ByteArray) : Bool := decide (sg s < wE s) || decide (fB s < fE s)
def xB (s : ByteArray) : Nat := if isSg (bt s (fE s + 1)) then fE s + 2 else fE s + 1
def xE (s : ByteArray) : Nat := dg s (xB s)
def hE (s : ByteArray) : Bool := isEx (bt s (fE s)) && decide (xB s < xE s)
def pSign (s : ByteArray) : ByteArray := if okN s then s.extract 0 (sg s) else ByteArray.empty
def pWhole (s : ByteArray) : ByteArray := if okN s then s.extract (sg s) (wE s) else ByteArray.empty
def pFrac (s : ByteArray) : ByteArray := if okN s then s.extract (fB s) (fE s) else ByteArray.empty
def pExp (s : ByteArray) : ByteArray := if okN s then if hE s then s.extract (fE s + 1) (xE s) else ByteArray.empty else ByteArray.empty
def pL (s : ByteArray) : Nat := if okN s then if hE s then xE s else fE s else 0

theorem sg_le_one (s : ByteArray) : sg s ≤ 1 := by unfold sg; split <;> omega
theorem sg_le (s : ByteArray) : sg s ≤ s.size := by
  unfold sg; split
  · rename_i h; rw [isSg_iff] at h; have := lt_of_bt (s := s) (k := 0) (by omega); omega
  · omega
theorem wE_ge (s : ByteArray) : sg s ≤ wE s := dg_ge _ _
theorem wE_le (s : ByteArray) : wE s ≤ s.size := dg_le _ _ (sg_le s)
theorem fB_ge (s : ByteArray) : wE s ≤ fB s := by unfold fB; split <;> omega
theorem hD_lt {s : ByteArray} (h : hD s = true) : wE s < s.size := lt_of_bt (by simp [hD] at h; omega)
theorem fE_ge (s : ByteArray) : fB s ≤ fE s := by
  unfold fB fE; split
  · exact dg_ge _ _
  · omega
theorem fE_le (s : ByteArray) : fE s ≤ s.size := by
  unfold fE; split
  · exact dg_le _ _ (hD_lt ‹_›)
  · exact wE_le s
theorem xB_ge (s : ByteArray) : fE s + 1 ≤ xB s := by unfold xB; split <;> omega
theorem xE_ge (s : ByteArray) : xB s ≤ xE s := dg_ge _ _
theorem xB_le {s : ByteArray} (h : isEx (bt s (fE s)) = true) : xB s ≤ s.size := by
  have h1 : fE s < s.size := lt_of_bt (by rw [isEx_iff] at h; omega)
  unfold xB; split
  · rename_i g; rw [isSg_iff] at g; have := lt_of_bt (s := s) (k := fE s + 1) (by omega); omega
  · omega
theorem xE_le {s : ByteArray} (h : isEx (bt s (fE s)) = true) : xE s ≤ s.size := dg_le _ _ (xB_le h)
theorem pL_le (s : ByteArray) : pL s ≤ s.size := by
  unfold pL; split
  · split
    · rename_i h; simp [hE] at h; exact xE_le h.1
    · exact fE_le s
  · omega

theorem extract_self (s : ByteArray) (a : Nat) : s.extract a a = ByteArray.empty := by
  apply ByteArray.ext; simp
theorem size_extract (s : ByteArray) (a b : Nat) (h : b ≤ s.size) : (s.extract a b).size = b - a := by
  rw [ByteArray.size_extract]; omega

end Go.Proofs.Qxb6628678a.Pl
