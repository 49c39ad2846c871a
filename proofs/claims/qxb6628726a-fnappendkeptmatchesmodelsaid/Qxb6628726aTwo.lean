/-
  THE RATE LOG (seat b6628726a): two logs in one block; RateLog.Add.
-/
import Derived.Test.Qxb6628726aAdd
namespace Go.Proofs.Qxb6628726a
open Go.RowKit
set_option linter.unusedVariables false
attribute [local go_sem ↓] Go.wp_at_zero Go.wp_at_succ

/-- One log's state. -/
structure LS where
  wv : Value
  tv : Value
  cv : Value
  base : Nat
  lim : Bool
  wins : List (Int × Int)
  tk : List (Int × Int)
  cn : List (Int × Int)

abbrev LogOf (w : World) (B L o : Nat) (s : LS) : Prop := Log w B L o s.wv s.tv s.cv s.base s.lim s.wins s.tk s.cn

def InF (s : LS) (b : Nat) : Prop := s.wv.ownBlock = some b ∨ s.tv.ownBlock = some b ∨ s.cv.ownBlock = some b

theorem Log.frame {w w' : World} {B L o : Nat} {s : LS} {o1 : Nat} {tv tv' cv : Value} (h : LogOf w B L o s) (fr : LogFr w w' L o1 tv tv' cv) (ho : o + 8 ≤ o1 ∨ o1 + 8 ≤ o) (hx : ∀ b, InF s b → tv.ownBlock ≠ some b ∧ cv.ownBlock ≠ some b) : LogOf w' B L o s := by
  obtain ⟨⟨c0, c1, c2, c3, c4, c5, c6, c7, fz⟩, r1, r2, r3, a1, a2, a3, a4, a5, a6, a7, a8⟩ := h
  have key : ∀ (e : TypeId) (v : Value) (l : List (Int × Int)), Row w B e v l → Apart v.ownBlock (some L) → (∀ b, v.ownBlock = some b → InF s b) → Row w' B e v l := by
    intro e v l hr ha hin
    refine ⟨hr.1, ?_⟩
    rcases hr.2 with a | ⟨g, cap, cur, a, b, c, d⟩
    · exact .inl a
    · have hg : v.ownBlock = some g := by rw [a]; rfl
      have hF := hx g (hin g hg)
      exact .inr ⟨g, cap, cur, a, b, (fr.block g (Array.getElem?_eq_some_iff.1 c).1 (fun e => Apart.ne ha (by rw [hg, e])) (Ne.symm hF.1) (Ne.symm hF.2)).trans c, d⟩
  refine ⟨⟨(fr.cells _ (by omega)).trans c0, (fr.cells _ (by omega)).trans c1, (fr.cells _ (by omega)).trans c2, (fr.cells _ (by omega)).trans c3, (fr.cells _ (by omega)).trans c4, (fr.cells _ (by omega)).trans c5, (fr.cells _ (by omega)).trans c6, (fr.cells _ (by omega)).trans c7, fun j => (fr.froz j).trans (fz j)⟩,
    key _ _ _ r1 a1 (fun b h => .inl h), key _ _ _ r2 a2 (fun b h => .inr (.inl h)), key _ _ _ r3 a3 (fun b h => .inr (.inr h)), a1, a2, a3, a4, a5, a6, a7, a8⟩

theorem LogFr.to_below {w w' : World} {B L o : Nat} {s : LS} {tv' : Value} (h : LogOf w B L o s) (fr : LogFr w w' L o s.tv tv' s.cv) (hB : B ≤ w.heap.size) : Below B w w' := by
  refine ⟨fr.os, fr.tape, fr.output, fr.size, fun k hk => fr.block k (by omega) ?_ ?_ ?_⟩
  · have := h.BL; omega
  · intro e; have := (World.ownsRow.lt h.rt k e.symm).1; omega
  · intro e; have := (World.ownsRow.lt h.rc k e.symm).1; omega

theorem InF.lt {w : World} {B L o : Nat} {s : LS} (h : LogOf w B L o s) {b : Nat} (hb : InF s b) : b < w.heap.size ∧ b ≠ L := by
  rcases hb with e | e | e
  · exact ⟨(World.ownsRow.lt h.rw b e).2, fun x => Apart.ne h.wL (by rw [e, x])⟩
  · exact ⟨(World.ownsRow.lt h.rt b e).2, fun x => Apart.ne h.tL (by rw [e, x])⟩
  · exact ⟨(World.ownsRow.lt h.rc b e).2, fun x => Apart.ne h.cL (by rw [e, x])⟩

structure Two (w : World) (B L : Nat) (s t : LS) : Prop where
  u : LogOf w B L 0 s
  c : LogOf w B L 8 t
  cross : ∀ b, InF s b → InF t b → False
  hB : B ≤ w.heap.size

theorem Two.below {w w' : World} {B L : Nat} {u c : LS} (h : Two w B L u c) (hb : Below w.heap.size w w') : Two w' B L u c := ⟨h.u.below hb, h.c.below hb, h.cross, Nat.le_trans h.hB hb.size⟩

theorem Two.stepU {w w' : World} {B L : Nat} {u c u' : LS} (h : Two w B L u c) (hl : LogOf w' B L 0 u') (fr : LogFr w w' L 0 u.tv u'.tv u.cv) (hw : u'.wv = u.wv) (hc : u'.cv = u.cv) : Two w' B L u' c ∧ Below B w w' := by
  refine ⟨⟨hl, h.c.frame fr (by omega) (fun b hb => ⟨fun e => h.cross b (.inr (.inl e)) hb, fun e => h.cross b (.inr (.inr e)) hb⟩), fun b h1 h2 => ?_, Nat.le_trans h.hB fr.size⟩, fr.to_below h.u h.hB⟩
  rcases h1 with e | e | e
  · exact h.cross b (.inl (by rw [← hw]; exact e)) h2
  · rcases fr.lies with l | ⟨g, l, hg⟩
    · exact h.cross b (.inr (.inl (by rw [← l]; exact e))) h2
    · rw [l] at e; simp at e; subst e; have := (InF.lt h.c h2).1; omega
  · exact h.cross b (.inr (.inr (by rw [← hc]; exact e))) h2
theorem Two.stepC {w w' : World} {B L : Nat} {u c c' : LS} (h : Two w B L u c) (hl : LogOf w' B L 8 c') (fr : LogFr w w' L 8 c.tv c'.tv c.cv) (hw : c'.wv = c.wv) (hc : c'.cv = c.cv) : Two w' B L u c' ∧ Below B w w' := by
  refine ⟨⟨h.u.frame fr (by omega) (fun b hb => ⟨fun e => h.cross b hb (.inr (.inl e)), fun e => h.cross b hb (.inr (.inr e))⟩), hl, fun b h1 h2 => ?_, Nat.le_trans h.hB fr.size⟩, fr.to_below h.c h.hB⟩
  rcases h2 with e | e | e
  · exact h.cross b h1 (.inl (by rw [← hw]; exact e))
  · rcases fr.lies with l | ⟨g, l, hg⟩
    · exact h.cross b h1 (.inr (.inl (by rw [← l]; exact e)))
    · rw [l] at e; simp at e; subst e; have := (InF.lt h.u h1).1; omega
  · exact h.cross b h1 (.inr (.inr (by rw [← hc]; exact e)))

/-- What add makes of a log, but for where its row then lies. -/
def LS.add (s : LS) (N : Nat) (u : Int) (tv : Value) : LS :=
  if s.wins.length = 0 then s else { s with tv := tv, base := baseOf s.tk s.base N, tk := tkAdd s.tk ((N - baseOf s.tk s.base N : Nat) : Int) u, cn := cnAdd s.cn u }

theorem add_log (L o B : Nat) (s : LS) (N : Nat) (u : Int) (w : World) (h : LogOf w B L o s) (l0 : s.wins.length ≤ 1000000) (l1 : s.tk.length ≤ 1000000) (l2 : s.cn.length ≤ 1000000) (hB : B ≤ w.heap.size) (hN : N ≤ 4611686018427387904) (hb : s.base ≤ N) :
    Calls Try.prog 32 #[.pointer (some ⟨L, o, none⟩), TM N, .int .i64 u] w fun e w' => e = .returned (.tuple #[]) ∧ ∃ tv', LogOf w' B L o (s.add N u tv') ∧ LogFr w w' L o s.tv (s.add N u tv').tv s.cv := by
  by_cases hw : s.wins.length = 0
  · have e : s.wins = [] := List.eq_nil_of_length_eq_zero hw
    have h' := h
    unfold LogOf at h'
    rw [e] at h'
    refine (add_none L o B _ _ _ _ _ _ _ N u w h').mono ?_
    rintro e' w' ⟨rfl, hbw⟩
    refine ⟨rfl, s.tv, ?_, ?_⟩
    · rw [LS.add, if_pos hw]; exact h.below hbw
    · rw [LS.add, if_pos hw]; exact (LogFr.refl w L o s.tv s.cv).below h.c.lt hbw
  · refine (add_some L o B _ _ _ _ _ _ _ _ N u w h (by omega) l0 l1 l2 hB hN ?_).mono ?_
    · unfold baseOf; split <;> omega
    · rintro e' w' ⟨rfl, tv', h1, h2⟩
      refine ⟨rfl, tv', ?_, ?_⟩
      · rw [LS.add, if_neg hw]; exact h1
      · rw [LS.add, if_neg hw]; exact h2

theorem LS.add_wv (s : LS) (N : Nat) (u : Int) (tv : Value) : (s.add N u tv).wv = s.wv := by unfold LS.add; split <;> rfl
theorem LS.add_cv (s : LS) (N : Nat) (u : Int) (tv : Value) : (s.add N u tv).cv = s.cv := by unfold LS.add; split <;> rfl
theorem LS.add_wins (s : LS) (N : Nat) (u : Int) (tv : Value) : (s.add N u tv).wins = s.wins := by unfold LS.add; split <;> rfl


structure LS.Ok (s : LS) (N : Nat) : Prop where
  l0 : s.wins.length ≤ 1000000
  l1 : s.tk.length ≤ 1000000
  l2 : s.cn.length ≤ 1000000
  b : s.base ≤ N

set_option maxRecDepth 100000 in
set_option maxHeartbeats 1000000 in
theorem rateAdd_any (L B : Nat) (s t : LS) (N : Nat) (m : Int) (w : World) (h : Two w B L s t) (h1 : s.Ok N) (h2 : t.Ok N) (hN : N ≤ 4611686018427387904) :
    Calls Try.prog 20 #[.pointer (some ⟨L, 0, none⟩), TM N, .int .i64 m] w fun e w' => e = .returned (.tuple #[]) ∧ ∃ tv tv', Two w' B L (s.add N m tv) (t.add N 1 tv') ∧ Below B w w' := by
  have hL := h.u.c.lt
  obtain ⟨W0, hW0⟩ : ∃ W0, W0 = w.alloc (Obj.cells #[Value.int IntKind.u64 ↑(ns N), Value.int IntKind.i64 ↑(sc N), Value.pointer none] 36) := ⟨_, rfl⟩
  have hbl0 : Below w.heap.size w W0 := by rw [hW0]; exact (Below.refl _ _).alloc (Nat.le_refl _) _
  have b0 : W0.cell? ⟨w.heap.size, 0, none⟩ = some (.int .u64 (ns N)) := by rw [hW0]; simp
  have b1 : W0.cell? ⟨w.heap.size, 1, none⟩ = some (.int .i64 (sc N)) := by rw [hW0]; simp
  have b2 : W0.cell? ⟨w.heap.size, 2, none⟩ = some (.pointer none) := by rw [hW0]; simp
  have two0 := h.below hbl0
  have hB0 := h.hB
  have HA := hide (fun (w1 : World) (h1' : Two w1 B L s t) => add_log L 0 B s N m w1 h1'.u h1.l0 h1.l1 h1.l2 h1'.hB hN h1.b)
  go_enter Try.func20, Try.ntmps20
  go_upto_region 1 with fail
  rw [← hW0]
  have hFu : ∀ k, w.heap.size ≤ k → some k ≠ s.tv.ownBlock ∧ some k ≠ s.cv.ownBlock := fun k hk =>
    ⟨fun e => by have := (World.ownsRow.lt h.u.rt k e.symm).2; omega, fun e => by have := (World.ownsRow.lt h.u.rc k e.symm).2; omega⟩
  have HF := hide hFu
  clear hW0 h hFu
  go_region_with (go_at_call 32; refine (HA.out _ (by exact two0.below (Below.refl _ _).drew)).mono ?_; rintro e w1 ⟨rfl, tv1, hl1, hfr1⟩)
  obtain ⟨two1, hb1⟩ := (two0.below (Below.refl _ _).drew).stepU hl1 hfr1 (LS.add_wv ..) (LS.add_cv ..)
  have hs0 : w.heap.size < W0.heap.size := World.block_lt_of_cell? _ _ b0
  have hblk : w1.heap[w.heap.size]? = W0.heap[w.heap.size]? := hfr1.block w.heap.size hs0 (by omega) (HF.out _ (Nat.le_refl _)).1 (HF.out _ (Nat.le_refl _)).2
  have q0 : w1.cell? ⟨w.heap.size, 0, none⟩ = some (.int .u64 (ns N)) := (World.cell?_of_block hblk).trans b0
  have q1 : w1.cell? ⟨w.heap.size, 1, none⟩ = some (.int .i64 (sc N)) := (World.cell?_of_block hblk).trans b1
  have q2 : w1.cell? ⟨w.heap.size, 2, none⟩ = some (.pointer none) := (World.cell?_of_block hblk).trans b2
  have HB1 := hide (show Below B w w1 from (hbl0.mono hB0).drew.trans hb1)
  have H2 := hide (fun (w2 : World) (h2' : Two w2 B L (s.add N m tv1) t) => add_log L 8 B t N 1 w2 h2'.c h2.l0 h2.l1 h2.l2 h2'.hB hN h2.b)
  clear hl1 hfr1 two0 b0 b1 b2 hblk hb1 hbl0
  go_upto_region 2 with fail
  go_region_with (go_at_call 32; refine (H2.out _ (by exact two1.below (Below.refl _ _).drew)).mono ?_; rintro e w2 ⟨rfl, tv2, hl2, hfr2⟩)
  obtain ⟨two2, hb2⟩ := (two1.below (Below.refl _ _).drew).stepC hl2 hfr2 (LS.add_wv ..) (LS.add_cv ..)
  go_wp2_with fail
  go_end0
  exact ⟨rfl, tv1, tv2, two2, HB1.out.drew.trans hb2⟩
end Go.Proofs.Qxb6628726a
