/-
  RateLog.AppendKept (seat b6628726a).
-/
import Derived.Test.Qxb6628726aRate
namespace Go.Proofs.Qxb6628726a
open Go.RowKit
set_option linter.unusedVariables false
attribute [local go_sem ↓] Go.wp_at_zero Go.wp_at_succ

/-- Every block from B on stays. -/
def Keeps (B : Nat) (w w' : World) : Prop := w.heap.size ≤ w'.heap.size ∧ ∀ k, B ≤ k → k < w.heap.size → w'.heap[k]? = w.heap[k]?
theorem Keeps.of_led {w w' : World} {v v' : Value} {B : Nat} (h : Led w w' v v') (hv : ∀ k, v.ownBlock = some k → k < B) : Keeps B w w' :=
  ⟨h.grown.size, fun k a b => h.grown.block k b (fun e => by have := hv k (by first | exact e | exact e.symm); omega)⟩
theorem Keeps.of_below {w w' : World} {B : Nat} (h : Below w.heap.size w w') : Keeps B w w' := ⟨h.size, fun k _ b => h.block k b⟩
theorem Keeps.trans {w w1 w2 : World} {B : Nat} (a : Keeps B w w1) (b : Keeps B w1 w2) : Keeps B w w2 :=
  ⟨Nat.le_trans a.1 b.1, fun k hk hl => (b.2 k hk (Nat.lt_of_lt_of_le hl a.1)).trans (a.2 k hk hl)⟩

theorem Row.keep {w w' : World} {B : Nat} {e : TypeId} {v : Value} {l : List (Int × Int)} (h : Row w B e v l) (hb : Keeps B w w') : Row w' B e v l := by
  refine ⟨h.1, ?_⟩
  rcases h.2 with a | ⟨g, cap, cur, a, b, c, d⟩
  · exact .inl a
  · exact .inr ⟨g, cap, cur, a, b, (hb.2 g b (Array.getElem?_eq_some_iff.1 c).1).trans c, d⟩
theorem Row.lower {w : World} {B B' : Nat} {e : TypeId} {v : Value} {l : List (Int × Int)} (h : Row w B e v l) (hb : B' ≤ B) : Row w B' e v l := by
  refine ⟨h.1, ?_⟩
  rcases h.2 with a | ⟨g, cap, cur, a, b, c, d⟩
  · exact .inl a
  · exact .inr ⟨g, cap, cur, a, Nat.le_trans hb b, c, d⟩
theorem Log.keep {w w' : World} {B L o : Nat} {wv tv cv : Value} {base : Nat} {lim : Bool} {wins tk cn : List (Int × Int)} (h : Log w B L o wv tv cv base lim wins tk cn) (hb : Keeps B w w') : Log w' B L o wv tv cv base lim wins tk cn := by
  have e := hb.2 L h.BL h.c.lt
  exact ⟨h.c.later (fun j => World.cell?_of_block e) (fun j => World.frozen?_of_block e), h.rw.keep hb, h.rt.keep hb, h.rc.keep hb, h.wL, h.tL, h.cL, h.wt, h.wc, h.tc, h.ct, h.BL⟩
theorem Two.keep {w w' : World} {B L : Nat} {s t : LS} (h : Two w B L s t) (hb : Keeps B w w') : Two w' B L s t := ⟨h.u.keep hb, h.c.keep hb, h.cross, Nat.le_trans h.hB hb.1⟩
theorem Box.of_block {w w' : World} {b N : Nat} (h : Box w b N) (e : w'.heap[b]? = w.heap[b]?) : Box w' b N := ⟨(World.cell?_of_block e).trans h.c0, (World.cell?_of_block e).trans h.c1, (World.cell?_of_block e).trans h.c2⟩

/-- The instants of a log. -/
structure LS.InOk (s : LS) (inst : Nat → Nat) (T : Nat) : Prop where
  at_ : ∀ j, j < s.tk.length → (s.tk.getD j (0, 0)).1 = ((inst j - s.base : Nat) : Int) ∧ s.base ≤ inst j ∧ inst j ≤ T
  mono : ∀ j, j + 1 < s.tk.length → inst j ≤ inst (j + 1)

def sect (inst : Nat → Nat) (val : Nat → Int) (T m k : Nat) : List Int := uv 9 (k : Int) ++ body inst val T m k
theorem body_shift (inst : Nat → Nat) (val val' : Nat → Int) (T f c : Nat) (hv : ∀ j, val' j = val (j + c)) : ∀ m, body (fun j => inst (j + c)) val' T f m = body inst val T (f + c) m
  | 0 => rfl
  | m + 1 => by
    simp only [body]
    rw [body_shift inst val val' T f c hv m, hv, show f + m + c = f + c + m by omega]
    have : stepOf (fun j => inst (j + c)) T f (f + m) = stepOf inst T (f + c) (f + c + m) := by
      unfold stepOf
      by_cases h : m = 0
      · subst h; simp
      · rw [if_neg (by omega), if_neg (by omega)]
        show inst (f + m + c) - inst (f + m - 1 + c) = _
        rw [show f + m + c = f + c + m by omega, show f + m - 1 + c = f + c + m - 1 by omega]
    rw [this]

theorem shP_at (sh c : Nat) (l : List (Int × Int)) (j : Nat) (h : c + j < l.length) : (shP sh (l.drop c)).getD j (0, 0) = ((l.getD (c + j) (0, 0)).1 - sh, (l.getD (c + j) (0, 0)).2) := by
  simp [shP, List.getElem?_drop, h]
theorem sh_first {s s' : LS} {T m c sh : Nat} {inst : Nat → Nat} (h : s.AdvBy T s' m c sh) (hi : s.InOk inst T) : ∀ j, c + j < s.tk.length → s.base + sh ≤ inst (c + j) := by
  intro j hj
  have mono : ∀ j, c + j < s.tk.length → inst c ≤ inst (c + j) := by
    intro j
    induction j with
    | zero => intro _; exact Nat.le_refl _
    | succ j ih => intro hj; exact Nat.le_trans (ih (by omega)) (hi.mono (c + j) (by omega))
  rcases h.hc with ⟨rfl, rfl⟩ | ⟨rfl, ⟨h1, h2⟩ | ⟨h1, h2⟩⟩
  · have := (hi.at_ (0 + j) hj).2.1; omega
  · have a := hi.at_ c h1
    have b := mono j hj
    rw [a.1] at h2
    omega
  · omega
/-- The instants behind advance. -/
theorem LS.AdvBy.inOk {s s' : LS} {T m c sh : Nat} {inst : Nat → Nat} (h : s.AdvBy T s' m c sh) (hi : s.InOk inst T) : s'.InOk (fun j => inst (j + c)) T := by
  have hlen := h.len
  refine ⟨fun j hj => ?_, fun j hj => ?_⟩
  · rw [hlen] at hj
    have a := hi.at_ (c + j) (by omega)
    have b := sh_first h hi j (by omega)
    rw [h.tk, shP_at sh c s.tk j (by omega), h.base]
    simp only [show j + c = c + j by omega]
    exact ⟨by rw [a.1]; omega, by omega, a.2.2⟩
  · rw [hlen] at hj
    simp only [show j + 1 + c = (j + c) + 1 by omega]
    exact hi.mono (j + c) (by omega)
theorem body_ext (inst : Nat → Nat) (val val' : Nat → Int) (T f : Nat) : ∀ m, (∀ j, j < f + m → val j = val' j) → body inst val T f m = body inst val' T f m
  | 0, _ => rfl
  | m + 1, h => by
    simp only [body]
    rw [body_ext inst val val' T f m (fun j hj => h j (by omega)), h (f + m) (by omega)]
theorem LS.AdvBy.sect {s s' : LS} {T m c sh : Nat} {inst : Nat → Nat} (h : s.AdvBy T s' m c sh) : uv 9 ((s'.tk.length - (m - c) : Nat) : Int) ++ body (fun j => inst (j + c)) (fun j => (s'.tk.getD j (0, 0)).2) T (m - c) (s'.tk.length - (m - c)) = sect inst (fun j => (s.tk.getD j (0, 0)).2) T m (s.tk.length - m) := by
  have a := h.cm
  have hlen := h.len
  rw [show s'.tk.length - (m - c) = s.tk.length - m by omega, Go.Proofs.Qxb6628726a.sect]
  congr 1
  rw [body_ext (fun j => inst (j + c)) (fun j => (s'.tk.getD j (0, 0)).2) (fun j => (s.tk.getD (j + c) (0, 0)).2) T (m - c) (s.tk.length - m) ?_, body_shift inst (fun j => (s.tk.getD j (0, 0)).2) _ T (m - c) c (fun j => rfl), show m - c + c = m by omega]
  intro j hj
  rw [h.tk, shP_at sh c s.tk j (by omega), show j + c = c + j by omega]

/-- What AppendKept answers: kept entries' instants and values are given by the logs ahead of it. -/
def keptL (l : List Int) (s t : LS) (iu ic : Nat → Nat) (T : Nat) : List Int :=
  if s.kn T + t.kn T = 0 then l else
    l ++ hdr T ++ sect iu (fun j => (s.tk.getD j (0, 0)).2) T (s.old T).toNat (s.tk.length - (s.old T).toNat) ++ sect ic (fun j => (t.tk.getD j (0, 0)).2) T (t.old T).toNat (t.tk.length - (t.old T).toNat)
/-- Blocks of neither log, nor of the bytes, stay. -/
def Fr3 (w w' : World) (L : Nat) (s t : LS) (v : Value) : Prop := ∀ k, k < w.heap.size → k ≠ L → ¬ InF s k → ¬ InF t k → v.ownBlock ≠ some k → w'.heap[k]? = w.heap[k]?
def KeptPost (w w' : World) (B0 L : Nat) (v : Value) (l : List Int) (s t : LS) (iu ic : Nat → Nat) (T : Nat) (e : Ending) : Prop :=
  ∃ v', e = .returned (.tuple #[v', .bool (decide (s.kn T + t.kn T ≠ 0))]) ∧ Own w' B0 v' (keptL l s t iu ic T) ∧ Below B0 w w' ∧ Fr3 w w' L s t v ∧ (v'.ownBlock = v.ownBlock ∨ ∃ g, v'.ownBlock = some g ∧ w.heap.size ≤ g)

theorem Own.at_below {w w' : World} {B0 B : Nat} {v : Value} {l : List Int} (h : Own w B0 v l) (hv : ∀ k, v.ownBlock = some k → k < B) (hb : Below B w w') : Own w' B0 v l := by
  refine ⟨h.1, ?_⟩
  rcases h.2 with a | ⟨g, cap, cur, a, b, c, d⟩
  · exact .inl a
  · exact .inr ⟨g, cap, cur, a, b, (hb.block g (hv g (by rw [a]; rfl))).trans c, d⟩

theorem Fr3.led {w w1 w2 : World} {L : Nat} {s t : LS} {v v2 : Value} (h : Fr3 w w1 L s t v) (l : Led w1 w2 v v2) (hs : w.heap.size ≤ w1.heap.size) : Fr3 w w2 L s t v :=
  fun k hk a b c d => (l.grown.block k (Nat.lt_of_lt_of_le hk hs) (fun e => d (by first | exact e | exact e.symm))).trans (h k hk a b c d)
theorem led_lies {w w1 w2 : World} {v v2 : Value} (l : Led w1 w2 v v2) (hs : w.heap.size ≤ w1.heap.size) : v2.ownBlock = v.ownBlock ∨ ∃ g, v2.ownBlock = some g ∧ w.heap.size ≤ g := by
  rcases l.lies with e | ⟨g, e, h⟩
  · exact .inl e
  · exact .inr ⟨g, e, Nat.le_trans hs h⟩
/-- Where the bytes may lie while the answer is written. -/
theorem Led.off {w w' : World} {v v' : Value} {B : Nat} (h : Led w w' v v') (hv : ∀ k, v.ownBlock = some k → k < B) {k : Nat} (hB : B ≤ k) (hk : k < w.heap.size) : v'.ownBlock ≠ some k := by
  intro e
  rcases h.lies with l | ⟨g, l, hg⟩
  · have := hv k (by rw [← l]; exact e); omega
  · rw [l] at e; simp at e; omega

theorem InF.ge {w : World} {B L o : Nat} {s : LS} (h : LogOf w B L o s) {b : Nat} (hb : InF s b) : B ≤ b := by
  rcases hb with e | e | e
  · exact (World.ownsRow.lt h.rw b e).1
  · exact (World.ownsRow.lt h.rt b e).1
  · exact (World.ownsRow.lt h.rc b e).1

/-- One section is appended: the two calls of it. -/
theorem keptPart {L o B B0 : Nat} {s s' : LS} {T m c sh : Nat} {inst : Nat → Nat} (h : s.AdvBy T s' m c sh) (hi : s.InOk inst T) (hk : s.AdvOk T) (hT : T ≤ 4611686018427387904) {w : World} (hl : LogOf w B L o s') {b : Value} {l : List Int} (hown : Own w B0 b l) (hB0 : B0 ≤ B) (hBw : B ≤ w.heap.size)
    (hoff : ∀ k, InF s' k → b.ownBlock ≠ some k) (hbl : b.ownBlock ≠ some L) (l2 : l.length ≤ 10000000) :
    (∀ wx, Below w.heap.size w wx → Calls Try.prog 27 #[.pointer (some ⟨L, o, none⟩)] wx fun e w' => e = .returned (.int .i64 ((m - c : Nat) : Int)) ∧ Below wx.heap.size wx w') ∧
    (∀ wx, Below w.heap.size w wx → Calls Try.prog 26 #[.pointer (some ⟨L, o, none⟩), b, .int .i64 ((m - c : Nat) : Int), TM T] wx fun e w' => ∃ v', e = .returned v' ∧ Own w' B0 v' (l ++ sect inst (fun j => (s.tk.getD j (0, 0)).2) T m (s.tk.length - m)) ∧ Led w w' b v') := by
  have a := h.cm
  have hlen := h.len
  have k1 := hk.l1
  have q1 : s'.cn.length ≤ 1000000 := by rw [h.cnl, hk.l2]; exact hk.l0
  refine ⟨fun wx hb => ?_, fun wx hb => ?_⟩
  · have e : minS s'.cn s'.tk.length = ((m - c : Nat) : Int) := by rw [h.min]; omega
    have hl' := hl.below hb
    have := oldest_any L o B _ _ _ _ _ s'.tk s'.cn wx hl'.c hl'.rt hl'.rc (by omega) q1
    rw [e] at this
    exact this
  · have hl' := hl.below hb
    have hin := h.inOk hi
    refine (kept_any L o B0 _ _ _ _ _ s'.tk (fun j => inst (j + c)) T (m - c) b l wx hl'.c (hl'.rt.lower hB0) (hown.below hb) (Nat.le_trans (Nat.le_trans hB0 hBw) hb.size) hbl ?_ hin.at_ hin.mono hT (by omega) (by omega) l2).mono ?_
    · by_cases hn : s'.tv.ownBlock = none
      · exact .inl hn
      · obtain ⟨k, hk'⟩ := Option.ne_none_iff_exists'.1 hn
        exact .inr (by rw [hk']; exact Ne.symm (hoff k (.inr (.inl hk'))))
    · rintro e w' ⟨v', rfl, ho, hled⟩
      refine ⟨v', rfl, ?_, (Led.of_below hb b).trans hled⟩
      rw [← h.sect (inst := inst), ← List.append_assoc]
      exact ho

set_option maxRecDepth 100000 in
set_option maxHeartbeats 2000000 in
theorem appendKept_any (L B B0 : Nat) (s t : LS) (T : Nat) (v : Value) (l : List Int) (iu ic : Nat → Nat) (w : World) (h : Two w B L s t) (h1 : s.AdvOk T) (h2 : t.AdvOk T) (hT : T ≤ 4611686018427387904)
    (hown : Own w B0 v l) (hB0 : B0 ≤ B) (hv : ∀ k, v.ownBlock = some k → k < B) (hl : l.length ≤ 2000000) (hn5 : s.tk.length ≤ 100000) (hiu : s.InOk iu T) (hic : t.InOk ic T) :
    Calls Try.prog 10 #[.pointer (some ⟨L, 0, none⟩), v, TM T] w fun e w' => KeptPost w w' B0 L v l s t iu ic T e := by
  obtain ⟨i0, hi0, hz0, hz1, hz2⟩ := info_parts info5
  have hL := h.u.c.lt
  have hBw := h.hB
  obtain ⟨W0, hW0⟩ : ∃ W0, W0 = w.alloc (Obj.cells #[Value.int IntKind.u64 ↑(ns T), Value.int IntKind.i64 ↑(sc T), Value.pointer none] 36) := ⟨_, rfl⟩
  have hbl0 : Below w.heap.size w W0 := by rw [hW0]; exact (Below.refl _ _).alloc (Nat.le_refl _) _
  have box0 : Box W0 w.heap.size T := by rw [hW0]; exact ⟨by simp, by simp, by simp⟩
  have two0 := h.below hbl0
  have HE := hide (entries_any L B s t T W0 two0 h1 h2 hT)
  have hs0 : w.heap.size < W0.heap.size := World.block_lt_of_cell? _ _ box0.c0
  have hnS : ¬ InF s w.heap.size := fun e => by have := (InF.lt h.u e).1; omega
  have hnT : ¬ InF t w.heap.size := fun e => by have := (InF.lt h.c e).1; omega
  have own0 := hown.below hbl0
  have n1 : 0 ≤ s.kn T ∧ s.kn T ≤ 1000000 := by have := h1.nonneg; have := s.old_le T; have := h1.l1; unfold LS.kn; omega
  have n2 : 0 ≤ t.kn T ∧ t.kn T ≤ 1000000 := by have := h2.nonneg; have := t.old_le T; have := h2.l1; unfold LS.kn; omega
  obtain ⟨c0, c1, c2⟩ := box0
  go_enter Try.func10, Try.ntmps10
  go_upto_region 1 with fail
  rw [← hW0]
  have HB0 := hide (hbl0.mono (Nat.le_trans hB0 hBw))
  have HFr := hide (show ∀ w1, Fr2 W0 w1 L s t → Fr3 w w1 L s t v from fun w1 hf k hk a b c d => (hf k (Nat.lt_of_lt_of_le hk hbl0.size) a b c).trans (hbl0.block k hk))
  have HV := hide hv
  clear hW0 h
  by_cases hz : s.kn T + t.kn T = 0
  · have hk : Hid (keptL l s t iu ic T = l ∧ decide (s.kn T + t.kn T ≠ 0) = false) := hide ⟨if_pos hz, by simp [hz]⟩
    rw [hz] at HE
    clear hz n1 n2
    go_wp2_with fail
    refine HE.out.mono ?_
    rintro e w1 ⟨rfl, hp⟩
    obtain ⟨s', t', two1, hb1, hf1, hs, ht⟩ := hp
    go_wp2_with fail
    exact bodyPost_ret (v := .tuple #[v, .bool false]) (by simp [results, Try.results10, go_sem]) rfl ⟨v, by rw [hk.out.2], by rw [hk.out.1]; exact own0.at_below HV.out hb1, HB0.out.trans (hb1.mono hB0), HFr.out _ hf1, .inl rfl⟩
  · have hk : Hid (keptL l s t iu ic T = l ++ hdr T ++ sect iu (fun j => (s.tk.getD j (0, 0)).2) T (s.old T).toNat (s.tk.length - (s.old T).toNat) ++ sect ic (fun j => (t.tk.getD j (0, 0)).2) T (t.old T).toNat (t.tk.length - (t.old T).toNat) ∧ decide (s.kn T + t.kn T ≠ 0) = true) := hide ⟨if_neg hz, by simp [hz]⟩
    have hz' : (s.kn T + t.kn T == 0) = false := by rw [beq_eq_false_iff_ne]; exact hz
    generalize hX : s.kn T + t.kn T = X at hz' HE
    have HX := hide hX
    clear hX hz n1 n2
    go_wp2_with fail
    refine HE.out.mono ?_
    rintro e w1 ⟨rfl, hp⟩
    obtain ⟨s', t', two1, hb1, hf1, hs, ht⟩ := hp
    have hblk := hf1 w.heap.size hs0 (by omega) hnS hnT
    have box1 : Box w1 w.heap.size T := Box.of_block ⟨c0, c1, c2⟩ hblk
    have own1 := own0.at_below HV.out hb1
    have HB1 := hide (HB0.out.trans (hb1.mono hB0))
    have HF1 := hide (HFr.out _ hf1)
    have hsz1 : w.heap.size < w1.heap.size := World.block_lt_of_cell? _ _ box1.c0
    clear c0 c1 c2 hblk hf1 own0 two0 hown HE hb1 HB0 hbl0
    have hsc := sc_le hT
    have hns := ns_lt T
    have HWs := hide (show B ≤ w.heap.size from hBw)
    go_wp2_with (at_builtin; refine wpList_append_lies _ (by rfl) _ _ 24 (by rfl) B0 5 i0 (.int .u8 0) 1 1 Try.underlying24 hi0 hz0 hz1 hz2 rfl (by omega) v l.length (U8 l) (by rfl) (own1.alloc _) ⟨w1.heap.size, 0, none⟩ 1 1 [.int .u8 1] (by rfl) (by rfl) ?c1 ?c2 (by omega) ?c3 ?c4 ?c5 (w1.heap.size + 1) ?c6 ?_)
    case c1 => exact cell_one_new _ _ _
    case c2 => intro u hu; simp at hu; subst hu; rfl
    case c3 => unfold maxLen; omega
    case c4 => omega
    case c5 => simp; omega
    case c6 => simp
    intro g cap2 w2 hown2 hgrow hat hlt2
    have led2 := Led.step (n := l.length + 1) (cap := cap2) hgrow hat
    have ho2 := Own.snoc hown2
    obtain ⟨d0, d1, d2⟩ := box1.of_block ((Keeps.of_led led2 HV.out).2 w.heap.size hBw hsz1)
    have hsz2 : w1.heap.size ≤ w2.heap.size := led2.grown.size
    have own1' := fun k hk => (own1.lt k hk).1
    clear hown2 hgrow hat hlt2 own1
    go_wp2_with fail
    refine (unix_any (ns T) (sc T) hns hsc _).mono ?_
    rintro e w3 ⟨rfl, hb3⟩
    have led3 := led2.trans (Led.of_below hb3 _)
    have ho3 := ho2.below hb3
    have hsz3 : w1.heap.size ≤ w3.heap.size := led3.grown.size
    have HL3 := hide led3
    clear hb3 led2 led3 d0 d1 d2 ho2 hsz2
    go_wp2_with fail
    refine (var22_any B0 _ (l ++ [1]) _ (by omega) (by omega) _ ho3 (by omega) (by simp; omega)).mono ?_
    rintro e w4 ⟨v4, rfl, ho4, led4⟩
    have led4' := HL3.out.trans led4
    obtain ⟨d0, d1, d2⟩ := box1.of_block ((Keeps.of_led led4' HV.out).2 w.heap.size hBw hsz1)
    have hsz4 : w1.heap.size ≤ w4.heap.size := led4'.grown.size
    have HL4 := hide led4'
    have hu := uv_len 9 (zz ((sc T : Int) + -62135596800))
    have hlen4 : (l ++ [1] ++ uv 9 (zz ((sc T : Int) + -62135596800))).length ≤ 2000011 := by simp; omega
    generalize hl4 : l ++ [1] ++ uv 9 (zz ((sc T : Int) + -62135596800)) = l4 at ho4 hlen4
    have HL4e := hide hl4
    clear led4 led4' ho3 hsz3 hl4 hu HL3
    go_wp2_with fail
    refine (nanosecond_any (ns T) (sc T) hns _).mono ?_
    rintro e w5 ⟨rfl, hb5⟩
    have led5 := HL4.out.trans (Led.of_below hb5 _)
    have ho5 := ho4.below hb5
    have hsz5 : w1.heap.size ≤ w5.heap.size := led5.grown.size
    have HL5 := hide led5
    clear hb5 led5 d0 d1 d2 ho4 hsz4 HL4
    go_wp2_with fail
    refine (uv24_any B0 _ l4 (ns T : Int) (by omega) (by omega) _ ho5 (by omega) (by omega)).mono ?_
    rintro e w6 ⟨v6, rfl, ho6, led6⟩
    have led6' := HL5.out.trans led6
    have box6 := box1.of_block ((Keeps.of_led led6' HV.out).2 w.heap.size hBw hsz1)
    have two6 := two1.keep (Keeps.of_led led6' HV.out)
    have hsz6 : w1.heap.size ≤ w6.heap.size := led6'.grown.size
    rw [← HL4e.out, show l ++ [1] ++ uv 9 (zz ((sc T : Int) + -62135596800)) ++ uv 9 (ns T : Int) = l ++ hdr T by simp [hdr]] at ho6
    have HL6 := hide led6'
    have HOff := hide (show ∀ (wx : World) (vx : Value), Led w1 wx v vx → ∀ k, (InF s' k ∨ InF t' k ∨ k = L) → vx.ownBlock ≠ some k from fun wx vx hl k hk => by
      rcases hk with e | e | rfl
      · exact hl.off HV.out (InF.ge two1.u e) (InF.lt two1.u e).1
      · exact hl.off HV.out (InF.ge two1.c e) (InF.lt two1.c e).1
      · exact hl.off HV.out two1.u.BL two1.u.c.lt)
    clear led6 led6' ho5 hsz5 HL5 HL4e hlen4 
    obtain ⟨ms, cs, shs, hs⟩ := hs
    obtain ⟨mt, ct, sht, ht⟩ := ht
    have em : (s.old T).toNat = ms := by rw [← hs.hm]; omega
    have et : (t.old T).toNat = mt := by rw [← ht.hm]; omega
    rw [em, et] at hk
    have hdl := hdr_len T
    have k6 := keptPart hs hiu h1 hT two6.u ho6 hB0 (by omega) (fun k hk => HOff.out _ _ HL6.out k (.inl hk)) (HOff.out _ _ HL6.out L (.inr (.inr rfl))) (by simp; omega)
    have HO6 := hide k6.1
    have HK6 := hide k6.2
    obtain ⟨fr, hfr⟩ : ∃ fr, ms - cs = fr := ⟨_, rfl⟩
    rw [hfr] at HO6 HK6
    clear k6 hfr em et
    obtain ⟨d0, d1, d2⟩ := box6
    generalize hS1 : sect iu (fun j => (s.tk.getD j (0, 0)).2) T ms (s.tk.length - ms) = S1 at hk HK6
    have hS1l : S1.length ≤ 2000020 := by
      rw [← hS1, sect, List.length_append]
      have a := body_len iu (fun j => (s.tk.getD j (0, 0)).2) T ms (s.tk.length - ms)
      have b := uv_len 9 ((s.tk.length - ms : Nat) : Int)
      omega
    go_upto_region 6 with fail
    go_cut [1] (fun v7 wx => Own wx B0 v7 (l ++ hdr T ++ S1) ∧ Led w6 wx v6 v7)
    case first =>
      go_region_with (first
        | (go_at_call 27; refine (HO6.out _ ?_).mono ?_; (exact (Below.refl _ _).drew); rintro e w7 ⟨rfl, hb7⟩; have hb7' : Below w6.heap.size w6 w7 := (Below.refl _ _).drew.trans hb7; have d0' := cell_later hb7' d0; have d1' := cell_later hb7' d1; have d2' := cell_later hb7' d2; clear hb7)
        | (go_at_call 26; refine (HK6.out _ ?_).mono ?_; (exact hb7'); rintro e w8 ⟨v8, rfl, ho8, led8⟩))
      all_goals (go_wp2_with fail; go_meet; exact ⟨ho8, led8⟩)
    case rest =>
      obtain ⟨ho7, led7⟩ := hcut
      have led7' := HL6.out.trans led7
      have two7 := two1.keep (Keeps.of_led led7' HV.out)
      obtain ⟨d0, d1, d2⟩ := box1.of_block ((Keeps.of_led led7' HV.out).2 w.heap.size hBw hsz1)
      have hsz7 : w1.heap.size ≤ wc.heap.size := led7'.grown.size
      have k7 := keptPart ht hic h2 hT two7.c ho7 hB0 (by omega) (fun k hk => HOff.out _ _ led7' k (.inr (.inl hk))) (HOff.out _ _ led7' L (.inr (.inr rfl))) (by simp; omega)
      have HO7 := hide k7.1
      have HK7 := hide k7.2
      obtain ⟨fr2, hfr⟩ : ∃ fr, mt - ct = fr := ⟨_, rfl⟩
      rw [hfr] at HO7 HK7
      have HL7 := hide led7'
      have hsB : B0 ≤ w1.heap.size := by omega
      clear k7 hfr led7 led7' ho7 two1 two6 box1 HO6 HK6 ho6
      go_upto_region 7 with fail
      go_region_with (first
        | (go_at_call 27; refine (HO7.out _ ?_).mono ?_; (exact (Below.refl _ _).drew); rintro e w7 ⟨rfl, hb7⟩; have hb7' : Below wc.heap.size wc w7 := (Below.refl _ _).drew.trans hb7; have d0' := cell_later hb7' d0; have d1' := cell_later hb7' d1; have d2' := cell_later hb7' d2; clear hb7)
        | (go_at_call 26; refine (HK7.out _ ?_).mono ?_; (exact hb7'); rintro e w8 ⟨v8, rfl, ho8, led8⟩))
      all_goals (go_wp2_with fail; exact bodyPost_ret (v := .tuple #[v8, .bool true]) (by simp [results, Try.results10, go_sem]) rfl ⟨v8, by rw [hk.out.2], by rw [hk.out.1]; exact ho8, HB1.out.trans ((HL7.out.trans led8).below hsB own1'), HF1.out.led (HL7.out.trans led8) (Nat.le_of_lt hsz1), led_lies (HL7.out.trans led8) (Nat.le_of_lt hsz1)⟩)

end Go.Proofs.Qxb6628726a
