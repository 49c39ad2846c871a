/-
  THE PLAIN SIDE of seat b6628757a: no Go in sight. The end of a nested comment: a scan with a depth; the grammar's reading; what appending changes.
-/
namespace Go.Proofs.Qxb6628757a.Pl

def bt (s : ByteArray) (k : Nat) : Nat := if h : k < s.size then s[k].toNat else 256
theorem bt_lt {s : ByteArray} {k : Nat} (h : k < s.size) : bt s k = s[k].toNat := by simp [bt, h]
theorem bt_ge {s : ByteArray} {k : Nat} (h : s.size ≤ k) : bt s k = 256 := by simp [bt, Nat.not_lt.2 h]

/-- The two bytes at i close a comment; open one. -/
def cl (s : ByteArray) (i : Nat) : Bool := decide (bt s i = 42) && decide (bt s (i + 1) = 47)
def op (s : ByteArray) (i : Nat) : Bool := decide (bt s i = 47) && decide (bt s (i + 1) = 42)
theorem cl_iff {s : ByteArray} {i : Nat} : cl s i = true ↔ bt s i = 42 ∧ bt s (i + 1) = 47 := by simp [cl]
theorem op_iff {s : ByteArray} {i : Nat} : op s i = true ↔ bt s i = 47 ∧ bt s (i + 1) = 42 := by simp [op]
theorem cl_not_op {s : ByteArray} {i : Nat} (h : op s i = true) : cl s i = false := by
  rw [op_iff] at h; simp [cl]; omega

def scan (s : ByteArray) : Nat → Nat → Nat → Nat × Bool
  | 0, _, _ => (s.size, false)
  | f + 1, i, d =>
    if i + 1 < s.size then
      if cl s i then (if d = 0 then (i + 2, true) else scan s f (i + 2) (d - 1))
      else if op s i then scan s f (i + 2) (d + 1)
      else scan s f (i + 1) d
    else (s.size, false)

theorem scan_fuel (s : ByteArray) : ∀ (f g i d : Nat), s.size ≤ i + f → s.size ≤ i + g → scan s f i d = scan s g i d
  | 0, 0, _, _, _, _ => rfl
  | 0, g + 1, i, d, h, _ => by simp only [scan]; rw [if_neg (by omega)]
  | f + 1, 0, i, d, _, h => by simp only [scan]; rw [if_neg (by omega)]
  | f + 1, g + 1, i, d, h1, h2 => by
    simp only [scan]
    rw [scan_fuel s f g (i + 2) (d - 1) (by omega) (by omega), scan_fuel s f g (i + 2) (d + 1) (by omega) (by omega), scan_fuel s f g (i + 1) d (by omega) (by omega)]

/-- Where the comment that stands open at i, d others open inside it, ends; and whether it does. -/
def sc (s : ByteArray) (i d : Nat) : Nat × Bool := scan s (s.size - i) i d

theorem sc_end {s : ByteArray} {i d : Nat} (h : s.size ≤ i + 1) : sc s i d = (s.size, false) := by
  unfold sc
  generalize s.size - i = f
  cases f with
  | zero => rfl
  | succ f => simp only [scan]; rw [if_neg (by omega)]

theorem sc_go {s : ByteArray} {i d : Nat} (h : i + 1 < s.size) :
    sc s i d = if cl s i then (if d = 0 then (i + 2, true) else sc s (i + 2) (d - 1)) else if op s i then sc s (i + 2) (d + 1) else sc s (i + 1) d := by
  unfold sc
  rw [show s.size - i = (s.size - i - 1) + 1 by omega]
  simp only [scan]
  rw [if_pos h, scan_fuel s _ (s.size - (i + 2)) (i + 2) (d - 1) (by omega) (by omega), scan_fuel s _ (s.size - (i + 2)) (i + 2) (d + 1) (by omega) (by omega), scan_fuel s _ (s.size - (i + 1)) (i + 1) d (by omega) (by omega)]

theorem sc_close0 {s : ByteArray} {i : Nat} (h : i + 1 < s.size) (c : cl s i = true) : sc s i 0 = (i + 2, true) := by rw [sc_go h, if_pos c, if_pos rfl]
theorem sc_close {s : ByteArray} {i d : Nat} (h : i + 1 < s.size) (c : cl s i = true) : sc s i (d + 1) = sc s (i + 2) d := by rw [sc_go h, if_pos c, if_neg (by omega)]; rfl
theorem sc_open {s : ByteArray} {i d : Nat} (h : i + 1 < s.size) (c : op s i = true) : sc s i d = sc s (i + 2) (d + 1) := by rw [sc_go h, cl_not_op c, if_neg (by decide), if_pos c]
theorem sc_step {s : ByteArray} {i d : Nat} (h : i + 1 < s.size) (a : cl s i = false) (b : op s i = false) : sc s i d = sc s (i + 1) d := by rw [sc_go h, a, b, if_neg (by decide), if_neg (by decide)]

/-- What holds at the end and is handed back over each kind of step holds everywhere. -/
theorem sc_ind (s : ByteArray) {motive : Nat → Nat → Prop}
    (hend : ∀ i d, s.size ≤ i + 1 → motive i d)
    (hcl0 : ∀ i, i + 1 < s.size → cl s i = true → motive i 0)
    (hcl : ∀ i d, i + 1 < s.size → cl s i = true → motive (i + 2) d → motive i (d + 1))
    (hop : ∀ i d, i + 1 < s.size → op s i = true → (∀ k e, i < k → motive k e) → motive i d)
    (hst : ∀ i d, i + 1 < s.size → cl s i = false → op s i = false → motive (i + 1) d → motive i d) : ∀ i d, motive i d := by
  have key : ∀ n i d, s.size ≤ i + n → motive i d := by
    intro n
    induction n with
    | zero => intro i d h; exact hend i d (by omega)
    | succ n ih =>
      intro i d h
      by_cases c : i + 1 < s.size
      · cases hc : cl s i
        · cases ho : op s i
          · exact hst i d c hc ho (ih _ _ (by omega))
          · exact hop i d c ho fun k e hk => ih _ _ (by omega)
        · cases d with
          | zero => exact hcl0 i c hc
          | succ d => exact hcl i d c hc (ih _ _ (by omega))
      · exact hend i d (by omega)
  intro i d
  exact key s.size i d (by omega)

theorem sc_bd (s : ByteArray) : ∀ i d, ((sc s i d).2 = true → i + 2 ≤ (sc s i d).1 ∧ (sc s i d).1 ≤ s.size ∧ bt s ((sc s i d).1 - 2) = 42 ∧ bt s ((sc s i d).1 - 1) = 47) ∧ ((sc s i d).2 = false → (sc s i d).1 = s.size) := by
  refine sc_ind s ?_ ?_ ?_ ?_ ?_
  · intro i d h; rw [sc_end h]; exact ⟨fun x => (by cases x), fun _ => rfl⟩
  · intro i h c; rw [sc_close0 h c]; rw [cl_iff] at c; exact ⟨fun _ => ⟨Nat.le_refl _, h, c.1, c.2⟩, fun x => by cases x⟩
  · intro i d h c m; rw [sc_close h c]; exact ⟨fun x => ⟨by have := (m.1 x).1; omega, (m.1 x).2⟩, m.2⟩
  · intro i d h c m; rw [sc_open h c]; have m := m (i + 2) (d + 1) (by omega); exact ⟨fun x => ⟨by have := (m.1 x).1; omega, (m.1 x).2⟩, m.2⟩
  · intro i d h a b m; rw [sc_step h a b]; exact ⟨fun x => ⟨by have := (m.1 x).1; omega, (m.1 x).2⟩, m.2⟩

/-- Behind a comment inside, on with what is open around it. -/
def cont (s : ByteArray) (d : Nat) (r : Nat × Bool) : Nat × Bool := if r.2 then sc s r.1 d else (s.size, false)

theorem sc_nest (s : ByteArray) : ∀ i d, sc s i (d + 1) = cont s d (sc s i 0) := by
  intro i d
  refine sc_ind s (motive := fun i _ => ∀ d, sc s i (d + 1) = cont s d (sc s i 0)) ?_ ?_ ?_ ?_ ?_ i 0 d
  · intro i _ h d; rw [sc_end h, sc_end h]; rfl
  · intro i h c d; rw [sc_close0 h c, sc_close h c]; rfl
  · intro i _ h c _ d; rw [sc_close0 h c, sc_close h c]; rfl
  · intro i _ h c m d
    rw [sc_open h c, sc_open h c, m (i + 2) 0 (by omega) (d + 1), m (i + 2) 0 (by omega) 0]
    have b := (sc_bd s (i + 2) 0).1
    generalize sc s (i + 2) 0 = r at b
    cases hr : r.2
    · simp only [cont, hr]; rfl
    · simp only [cont, hr, if_true]
      exact m r.1 0 (by have := (b hr).1; omega) d
  · intro i _ h a b m d; rw [sc_step h a b, sc_step h a b, m d]

/-! ### Appending -/
theorem bt_app {a b : ByteArray} {i : Nat} (h : i < a.size) : bt (a ++ b) i = bt a i := by
  have h' : i < (a ++ b).size := by rw [ByteArray.size_append]; omega
  rw [bt_lt h, bt_lt h']
  congr 1
  exact ByteArray.getElem_append_left h
theorem cl_app {a b : ByteArray} {i : Nat} (h : i + 1 < a.size) : cl (a ++ b) i = cl a i := by simp only [cl, bt_app h, bt_app (show i < a.size by omega)]
theorem op_app {a b : ByteArray} {i : Nat} (h : i + 1 < a.size) : op (a ++ b) i = op a i := by simp only [op, bt_app h, bt_app (show i < a.size by omega)]
theorem lt_app {a b : ByteArray} {i : Nat} (h : i + 1 < a.size) : i + 1 < (a ++ b).size := by rw [ByteArray.size_append]; omega

theorem sc_app (a b : ByteArray) : ∀ i d, ((sc a i d).2 = true → sc (a ++ b) i d = sc a i d) ∧ ((sc a i d).2 = false → i ≤ a.size → (sc (a ++ b) i d).2 = true → a.size + 1 ≤ (sc (a ++ b) i d).1) := by
  refine sc_ind a ?_ ?_ ?_ ?_ ?_
  · intro i d h; rw [sc_end (s := a) h]
    exact ⟨fun x => (by cases x), fun _ _ y => by have := ((sc_bd (a ++ b) i d).1 y).1; omega⟩
  · intro i h c; rw [sc_close0 h c, sc_close0 (lt_app h) (by rw [cl_app h]; exact c)]
    exact ⟨fun _ => rfl, fun x => by cases x⟩
  · intro i d h c m; rw [sc_close h c, sc_close (lt_app h) (by rw [cl_app h]; exact c)]
    exact ⟨m.1, fun x y z => m.2 x (by omega) z⟩
  · intro i d h c m; rw [sc_open h c, sc_open (lt_app h) (by rw [op_app h]; exact c)]
    have m := m (i + 2) (d + 1) (by omega)
    exact ⟨m.1, fun x y z => m.2 x (by omega) z⟩
  · intro i d h x y m; rw [sc_step h x y, sc_step (lt_app h) (by rw [cl_app h]; exact x) (by rw [op_app h]; exact y)]
    exact ⟨m.1, fun x y z => m.2 x (by omega) z⟩

end Go.Proofs.Qxb6628757a.Pl
