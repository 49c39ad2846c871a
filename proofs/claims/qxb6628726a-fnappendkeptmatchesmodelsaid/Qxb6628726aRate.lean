/-
  RateLog.advance and RateLog.Entries (seat b6628726a).
-/
import Derived.Test.Qxb6628726aAdv
import Derived.Test.Qxb6628726aLogB
namespace Go.Proofs.Qxb6628726a
open Go.RowKit
set_option linter.unusedVariables false
attribute [local go_sem ↓] Go.wp_at_zero Go.wp_at_succ

/-- What advance at T asks of a log. -/
structure LS.AdvOk (s : LS) (T : Nat) : Prop where
  l0 : s.wins.length ≤ 1000000
  l1 : s.tk.length ≤ 1000000
  l2 : s.cn.length = s.wins.length
  b : s.base ≤ T
  wl : ∀ j, j < s.wins.length → 0 ≤ (s.wins.getD j (0, 0)).2 ∧ (s.wins.getD j (0, 0)).2 ≤ 4611686018427387904
  calm : Calm s.lim s.tk s.cn
  at_ : ∀ j, j < s.tk.length → 0 ≤ (s.tk.getD j (0, 0)).1 ∧ (s.tk.getD j (0, 0)).1 ≤ ((T - s.base : Nat) : Int)

/-- The windows behind advance at T. -/
def LS.cnT (s : LS) (T : Nat) : List (Int × Int) := cnA s.wins s.tk s.cn s.lim ((T - s.base : Nat) : Int) s.wins.length
/-- The first entry that is kept at T. -/
def LS.old (s : LS) (T : Nat) : Int := minS (s.cnT T) s.tk.length

structure LS.AdvBy (s : LS) (T : Nat) (s' : LS) (m c sh : Nat) : Prop where
  hm : (m : Int) = s.old T
  hc : AdvC s.tk m c sh
  wv : s'.wv = s.wv
  cv : s'.cv = s.cv
  lim : s'.lim = s.lim
  wins : s'.wins = s.wins
  base : s'.base = s.base + sh
  tk : s'.tk = shP sh (s.tk.drop c)
  cn : s'.cn = shP c (s.cnT T)
def LS.AdvTo (s : LS) (T : Nat) (s' : LS) : Prop := ∃ m c sh, s.AdvBy T s' m c sh

/-- What advance leaves. -/
def AdvPost (w w' : World) (B L o : Nat) (s : LS) (T : Nat) : Prop := ∃ s', LogOf w' B L o s' ∧ LogFr w w' L o s.tv s'.tv s.cv ∧ s.AdvTo T s'

theorem advance_log (L o B : Nat) (s : LS) (T : Nat) (w : World) (h : LogOf w B L o s) (hs : s.AdvOk T) (hB : B ≤ w.heap.size) (hT : T ≤ 4611686018427387904) :
    Calls Try.prog 42 #[.pointer (some ⟨L, o, none⟩), TM T] w fun e w' => e = .returned (.tuple #[]) ∧ AdvPost w w' B L o s T := by
  refine (advance_any L o B s.wv s.tv s.cv s.base s.lim s.wins s.tk s.cn T w h hs.l0 hs.l1 hs.l2 hB hT hs.b hs.wl hs.calm hs.at_).mono ?_
  rintro e w' ⟨rfl, tv', m, c, sh, h1, h2, h3, h4⟩
  exact ⟨rfl, ⟨s.wv, tv', s.cv, s.base + sh, s.lim, s.wins, shP sh (s.tk.drop c), shP c (s.cnT T)⟩, h3, h4, m, c, sh, h1, h2, rfl, rfl, rfl, rfl, rfl, rfl, rfl⟩

/-- Blocks of neither log stay. -/
def Fr2 (w w' : World) (L : Nat) (s t : LS) : Prop := ∀ k, k < w.heap.size → k ≠ L → ¬ InF s k → ¬ InF t k → w'.heap[k]? = w.heap[k]?
def Adv2 (w w' : World) (B L : Nat) (s t : LS) (T : Nat) : Prop := ∃ s' t', Two w' B L s' t' ∧ Below B w w' ∧ Fr2 w w' L s t ∧ s.AdvTo T s' ∧ t.AdvTo T t'
theorem LogFr.fr2 {w w' : World} {L o : Nat} {s t : LS} {tv' : Value} (h : LogFr w w' L o s.tv tv' s.cv) : Fr2 w w' L s t :=
  fun k hk hL h1 h2 => h.block k hk hL (fun e => h1 (.inr (.inl e.symm))) (fun e => h1 (.inr (.inr e.symm)))
theorem LogFr.fr2' {w w' : World} {L o : Nat} {s t : LS} {tv' : Value} (h : LogFr w w' L o t.tv tv' t.cv) : Fr2 w w' L s t :=
  fun k hk hL h1 h2 => h.block k hk hL (fun e => h2 (.inr (.inl e.symm))) (fun e => h2 (.inr (.inr e.symm)))
theorem Fr2.of_below {w w' : World} {L : Nat} {s t : LS} (h : Below w.heap.size w w') : Fr2 w w' L s t := fun k hk _ _ _ => h.block k hk
theorem Fr2.trans {w w1 w2 : World} {L : Nat} {s t : LS} (a : Fr2 w w1 L s t) (b : Fr2 w1 w2 L s t) (hs : w.heap.size ≤ w1.heap.size) : Fr2 w w2 L s t :=
  fun k hk hL h1 h2 => (b k (Nat.lt_of_lt_of_le hk hs) hL h1 h2).trans (a k hk hL h1 h2)

set_option maxRecDepth 100000 in
set_option maxHeartbeats 1000000 in
theorem rateAdvance_any (L B : Nat) (s t : LS) (T : Nat) (w : World) (h : Two w B L s t) (h1 : s.AdvOk T) (h2 : t.AdvOk T) (hT : T ≤ 4611686018427387904) :
    Calls Try.prog 33 #[.pointer (some ⟨L, 0, none⟩), TM T] w fun e w' => e = .returned (.tuple #[]) ∧ Adv2 w w' B L s t T := by
  have hL := h.u.c.lt
  obtain ⟨W0, hW0⟩ : ∃ W0, W0 = w.alloc (Obj.cells #[Value.int IntKind.u64 ↑(ns T), Value.int IntKind.i64 ↑(sc T), Value.pointer none] 36) := ⟨_, rfl⟩
  have hbl0 : Below w.heap.size w W0 := by rw [hW0]; exact (Below.refl _ _).alloc (Nat.le_refl _) _
  have b0 : W0.cell? ⟨w.heap.size, 0, none⟩ = some (.int .u64 (ns T)) := by rw [hW0]; simp
  have b1 : W0.cell? ⟨w.heap.size, 1, none⟩ = some (.int .i64 (sc T)) := by rw [hW0]; simp
  have b2 : W0.cell? ⟨w.heap.size, 2, none⟩ = some (.pointer none) := by rw [hW0]; simp
  have two0 := h.below hbl0
  have hB0 := h.hB
  have HA := hide (fun (w1 : World) (h1' : Two w1 B L s t) => advance_log L 0 B s T w1 h1'.u h1 h1'.hB hT)
  go_enter Try.func33, Try.ntmps33
  go_upto_region 1 with fail
  rw [← hW0]
  have hFu : ∀ k, w.heap.size ≤ k → some k ≠ s.tv.ownBlock ∧ some k ≠ s.cv.ownBlock := fun k hk =>
    ⟨fun e => by have := (World.ownsRow.lt h.u.rt k e.symm).2; omega, fun e => by have := (World.ownsRow.lt h.u.rc k e.symm).2; omega⟩
  have HF := hide hFu
  clear hW0 h hFu
  go_region_with (go_at_call 42; refine (HA.out _ (by exact two0.below (Below.refl _ _).drew)).mono ?_; rintro e w1 ⟨rfl, hp1⟩)
  obtain ⟨s', hl1, hfr1, hs1⟩ := hp1
  obtain ⟨two1, hb1⟩ := (two0.below (Below.refl _ _).drew).stepU hl1 hfr1 (by obtain ⟨_, _, _, k⟩ := hs1; exact k.wv) (by obtain ⟨_, _, _, k⟩ := hs1; exact k.cv)
  have hs0 : w.heap.size < W0.heap.size := World.block_lt_of_cell? _ _ b0
  have hblk : w1.heap[w.heap.size]? = W0.heap[w.heap.size]? := hfr1.block w.heap.size hs0 (by omega) (HF.out _ (Nat.le_refl _)).1 (HF.out _ (Nat.le_refl _)).2
  have q0 : w1.cell? ⟨w.heap.size, 0, none⟩ = some (.int .u64 (ns T)) := (World.cell?_of_block hblk).trans b0
  have q1 : w1.cell? ⟨w.heap.size, 1, none⟩ = some (.int .i64 (sc T)) := (World.cell?_of_block hblk).trans b1
  have q2 : w1.cell? ⟨w.heap.size, 2, none⟩ = some (.pointer none) := (World.cell?_of_block hblk).trans b2
  have HB1 := hide (show Below B w w1 from (hbl0.mono hB0).drew.trans hb1)
  have HF1 := hide (show Fr2 w w1 L s t from (Fr2.of_below hbl0.drew).trans hfr1.fr2 hbl0.size)
  have HSz := hide (show w.heap.size ≤ w1.heap.size from Nat.le_trans hbl0.size hfr1.size)
  have H2 := hide (fun (w2 : World) (h2' : Two w2 B L s' t) => advance_log L 8 B t T w2 h2'.c h2 h2'.hB hT)
  clear hl1 hfr1 two0 b0 b1 b2 hblk hb1 hbl0
  go_upto_region 2 with fail
  go_region_with (go_at_call 42; refine (H2.out _ (by exact two1.below (Below.refl _ _).drew)).mono ?_; rintro e w2 ⟨rfl, hp2⟩)
  obtain ⟨t', hl2, hfr2, hs2⟩ := hp2
  obtain ⟨two2, hb2⟩ := (two1.below (Below.refl _ _).drew).stepC hl2 hfr2 (by obtain ⟨_, _, _, k⟩ := hs2; exact k.wv) (by obtain ⟨_, _, _, k⟩ := hs2; exact k.cv)
  go_wp2_with fail
  go_end0
  exact ⟨rfl, s', t', two2, HB1.out.drew.trans hb2, HF1.out.trans (hfr2.fr2') HSz.out, hs1, hs2⟩

theorem minS_sh (c : Nat) : ∀ (l : List (Int × Int)) (m : Int), minS (shP c l) (m - c) = minS l m - c
  | [], m => rfl
  | p :: l, m => by
    have e : min (m - (c : Int)) (p.1 - c) = min m p.1 - c := by omega
    simp only [shP, List.map_cons, minS]
    rw [e]
    exact minS_sh c l _
theorem LS.old_le (s : LS) (T : Nat) : s.old T ≤ s.tk.length := minS_le _ _
theorem LS.AdvOk.nonneg {s : LS} {T : Nat} (h : s.AdvOk T) : 0 ≤ s.old T :=
  minS_nonneg _ _ (cnA_nonneg _ _ _ _ _ _ (fun j hj => (h.calm.s j hj).1)) (by omega)
/-- Behind advance the oldest kept entry is the same entry. -/
theorem LS.AdvBy.len {s s' : LS} {T m c sh : Nat} (h : s.AdvBy T s' m c sh) : s'.tk.length = s.tk.length - c := by rw [h.tk]; simp [shP]
theorem LS.AdvBy.cm {s s' : LS} {T m c sh : Nat} (h : s.AdvBy T s' m c sh) : c ≤ m ∧ m ≤ s.tk.length := by
  have a := h.hm
  have b := s.old_le T
  rcases h.hc with ⟨e, _⟩ | ⟨e, _⟩ <;> omega
theorem LS.AdvBy.min {s s' : LS} {T m c sh : Nat} (h : s.AdvBy T s' m c sh) : minS s'.cn s'.tk.length = (m : Int) - c := by
  have a := h.cm
  rw [h.len, h.cn, show ((s.tk.length - c : Nat) : Int) = (s.tk.length : Int) - c by omega, minS_sh, h.hm]; rfl
theorem LS.AdvBy.cnl {s s' : LS} {T m c sh : Nat} (h : s.AdvBy T s' m c sh) : s'.cn.length = s.cn.length := by rw [h.cn]; simp [shP, LS.cnT, cnA_len]

/-- How many entries are kept at T. -/
def LS.kn (s : LS) (T : Nat) : Int := (s.tk.length : Int) - s.old T

set_option maxRecDepth 100000 in
set_option maxHeartbeats 1000000 in
theorem entries_any (L B : Nat) (s t : LS) (T : Nat) (w : World) (h : Two w B L s t) (h1 : s.AdvOk T) (h2 : t.AdvOk T) (hT : T ≤ 4611686018427387904) :
    Calls Try.prog 21 #[.pointer (some ⟨L, 0, none⟩), TM T] w fun e w' => e = .returned (.int .i64 (s.kn T + t.kn T)) ∧ Adv2 w w' B L s t T := by
  have hL := h.u.c.lt
  obtain ⟨W0, hW0⟩ : ∃ W0, W0 = w.alloc (Obj.cells #[Value.int IntKind.u64 ↑(ns T), Value.int IntKind.i64 ↑(sc T), Value.pointer none] 36) := ⟨_, rfl⟩
  have hbl0 : Below w.heap.size w W0 := by rw [hW0]; exact (Below.refl _ _).alloc (Nat.le_refl _) _
  have b0 : W0.cell? ⟨w.heap.size, 0, none⟩ = some (.int .u64 (ns T)) := by rw [hW0]; simp
  have b1 : W0.cell? ⟨w.heap.size, 1, none⟩ = some (.int .i64 (sc T)) := by rw [hW0]; simp
  have b2 : W0.cell? ⟨w.heap.size, 2, none⟩ = some (.pointer none) := by rw [hW0]; simp
  have two0 := h.below hbl0
  have HA := hide (rateAdvance_any L B s t T W0 two0 h1 h2 hT)
  have HB0 := hide (hbl0.mono h.hB)
  have HF0 := hide (show Fr2 w W0 L s t from Fr2.of_below hbl0)
  have HS0 := hide hbl0.size
  go_enter Try.func21, Try.ntmps21
  go_upto_region 1 with fail
  rw [← hW0]
  clear hW0 h hbl0
  go_wp2_with fail
  refine HA.out.mono ?_
  rintro e w1 ⟨rfl, hp⟩
  obtain ⟨s', t', two1, hb1, hf1, hs, ht⟩ := hp
  obtain ⟨ms, cs, shs, hs⟩ := hs
  obtain ⟨mt, ct, sht, ht⟩ := ht
  have l1 := h1.l1; have l2 := h2.l1
  have a1 := hs.len; have a2 := ht.len
  have e1 := hs.min; have e2 := ht.min
  have g1 := hs.cm; have g2 := ht.cm
  have q1 : s'.cn.length ≤ 1000000 := by rw [hs.cnl, h1.l2]; exact h1.l0
  have q2 : t'.cn.length ≤ 1000000 := by rw [ht.cnl, h2.l2]; exact h2.l0
  have k1 : (s'.tk.length : Int) - minS s'.cn s'.tk.length = s.kn T := by rw [e1, a1]; unfold LS.kn; rw [← hs.hm]; omega
  have k2 : (t'.tk.length : Int) - minS t'.cn t'.tk.length = t.kn T := by rw [e2, a2]; unfold LS.kn; rw [← ht.hm]; omega
  have HU := hide (fun (wx : World) (hb : Below w1.heap.size w1 wx) => held_any L 0 B _ _ _ _ _ s'.tk s'.cn wx (two1.below hb).u.c (two1.below hb).u.rt (two1.below hb).u.rc (by omega) q1 (by omega))
  have HC := hide (fun (wx : World) (hb : Below w1.heap.size w1 wx) => held_any L 8 B _ _ _ _ _ t'.tk t'.cn wx (two1.below hb).c.c (two1.below hb).c.rt (two1.below hb).c.rc (by omega) q2 (by omega))
  rw [k1] at HU
  rw [k2] at HC
  have n1 : 0 ≤ s.kn T ∧ s.kn T ≤ 1000000 := by unfold LS.kn; rw [← hs.hm]; omega
  have n2 : 0 ≤ t.kn T ∧ t.kn T ≤ 1000000 := by unfold LS.kn; rw [← ht.hm]; omega
  have HP := hide (show ∀ wx, Below w1.heap.size w1 wx → Adv2 w wx B L s t T from fun wx hb => ⟨s', t', two1.below hb, (HB0.out.trans hb1).trans (hb.mono two1.hB), (HF0.out.trans hf1 HS0.out).trans (Fr2.of_below hb) (Nat.le_trans HS0.out hb1.size), ⟨_, _, _, hs⟩, ⟨_, _, _, ht⟩⟩)
  clear hs ht e1 e2 a1 a2 g1 g2 k1 k2 q1 q2 hb1 two0 b0 b1 b2 HA HB0
  generalize hX : s.kn T = X at *
  generalize hY : t.kn T = Y at *
  have HX := hide hX
  have HY := hide hY
  clear hX hY
  have hwr : IntKind.i64.wrap (X + Y) = X + Y := by rw [IntKind.wrap_i64]; omega
  have HV := hide (fun (o : Nat) (ho : o = 0 ∨ o = 8) (wx : World) (hb : Below w1.heap.size w1 wx) => (show Calls Try.prog 34 #[.pointer (some ⟨L, o, none⟩)] wx fun e w' => e = .returned (.int .i64 (if o = 0 then X else Y)) ∧ Below wx.heap.size wx w' from by
    rcases ho with rfl | rfl
    · exact HU.out wx hb
    · exact HC.out wx hb))
  clear HU HC two1 l1 l2
  go_upto_region 2 with fail
  go_region_held3 (fun w' => Below w1.heap.size w1 w')
    (first | (exact (Below.refl _ _).drew) | (exact Below.trans (by assumption) (hb.mono (Below.size (by assumption)))))
    (first | (go_at_call 34; refine (HV.out _ (by first | exact .inl rfl | exact .inr rfl) _ (by assumption)).mono ?_; rintro e w2 ⟨rfl, hb⟩))
  go_wp2_with fail
  rename_i hHeld
  refine bodyPost_ret (v := .int .i64 (X + Y)) ?_ rfl ⟨by rw [HX.out, HY.out], HP.out _ hHeld⟩
  simp [results, Try.results21, go_sem]
end Go.Proofs.Qxb6628726a
