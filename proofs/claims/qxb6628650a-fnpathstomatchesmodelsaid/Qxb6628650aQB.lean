/-
  THE QUEUE's METHODS (seat b6628650a): Less, Swap, Pop, Push.
-/
import Derived.Test.Qxb6628650aQ
import Derived.Deep.RegionLaw
namespace Go.Proofs.Qxb6628650a
open Go.RowKit
set_option linter.unusedVariables false
attribute [local go_sem ↓] Go.wp_at_zero Go.wp_at_succ

theorem info62 : (Try.prog.info? 62).map (fun i => (i.zero, i.size, i.bytes)) = some (some (.agg #[.int .i64 0, .float .f64 0]), 2, 16) := by kernel_rfl

theorem grown_set (w : World) (a : Addr) (u : Value) : w.grownBy (w.setCell a u) (some a.block) :=
  ⟨rfl, rfl, rfl, by simp, fun k _ hk => heap_setCell_other w a k u (fun e => hk (by simp [e]))⟩
theorem gtrans {w w1 w2 : World} {r : Option Nat} (a : w.grownBy w1 r) (b : w1.grownBy w2 r) : w.grownBy w2 r :=
  ⟨b.os.trans a.os, b.tape.trans a.tape, b.output.trans a.output, Nat.le_trans a.size b.size, fun k hk hne => (b.block k (Nat.lt_of_lt_of_le hk a.size) hne).trans (a.block k hk hne)⟩
theorem grown_below {w w1 w2 : World} {r : Option Nat} (a : w.grownBy w1 r) (b : Below w1.heap.size w1 w2) : w.grownBy w2 r :=
  ⟨b.os.trans a.os, b.tape.trans a.tape, b.output.trans a.output, Nat.le_trans a.size b.size, fun k hk hne => (b.block k (Nat.lt_of_lt_of_le hk a.size)).trans (a.block k hk hne)⟩
theorem grown_drew {w w1 : World} {r : Option Nat} (a : w.grownBy w1 r) : w.grownBy w1.drew r := grown_below a (Below.refl _ _).drew

theorem len_any (a : Option Addr) (n cap : Nat) (w : World) : Calls Try.prog 22 #[.slice a n cap] w fun e w' => e = .returned (.int .i64 n) ∧ w' = w := by
  go_enter Try.func22, Try.ntmps22
  go_wp2_with fail
  go_ret
  exact ⟨rfl, rfl⟩

set_option maxRecDepth 100000 in
set_option maxHeartbeats 1000000 in
theorem less_any (B g cap i j : Nat) (q : QL) (w : World) (h : RQ w B g cap q) (hi : i < q.length) (hj : j < q.length) (h1 : (gt q i).2 ≤ infW) (h2 : (gt q j).2 ≤ infW) :
    Calls Try.prog 51 #[QV g q.length cap, .int .i64 i, .int .i64 j] w fun e w' => e = .returned (.bool (decide ((gt q i).2 < (gt q j).2))) ∧ Below w.heap.size w w' := by
  have c1 := (h.at_ i hi).2
  have c2 := (h.at_ j hj).2
  have hl := ord_lt h1 h2
  generalize (gt q i).2 = x at *
  generalize (gt q j).2 = y at *
  have i1 : (0 : Int) ≤ (i : Int) := by omega
  have i2 : (i : Int) < (q.length : Int) := by omega
  have i3 : (0 : Int) ≤ (j : Int) := by omega
  have i4 : (j : Int) < (q.length : Int) := by omega
  have HL := hide hl
  clear hl
  go_enter Try.func51, Try.ntmps51
  go_wp2_with fail
  go_quiet (fail)
  go_wp2_with fail
  go_ret
  exact ⟨by rw [← HL.out]; rfl, below_drewN (Below.refl _ _) _⟩

set_option maxRecDepth 100000 in
set_option maxHeartbeats 1000000 in
theorem swap_any (B g cap i j : Nat) (q : QL) (w : World) (h : RQ w B g cap q) (hi : i < q.length) (hj : j < q.length) :
    Calls Try.prog 54 #[QV g q.length cap, .int .i64 i, .int .i64 j] w fun e w' => e = .returned (.tuple #[]) ∧ RQ w' B g cap (sw q i j) ∧ w.grownBy w' (some g) := by
  have ci := h.at_ i hi
  have cj := h.at_ j hj
  have c1 := ci.1
  have c2 := ci.2
  have c3 := cj.1
  have c4 := cj.2
  have f1 := h.fz (i * 2)
  have f2 := h.fz (i * 2 + 1)
  have f3 := h.fz (j * 2)
  have f4 := h.fz (j * 2 + 1)
  have i1 : (0 : Int) ≤ (i : Int) := by omega
  have i2 : (i : Int) < (q.length : Int) := by omega
  have i3 : (0 : Int) ≤ (j : Int) := by omega
  have i4 : (j : Int) < (q.length : Int) := by omega
  clear ci cj
  by_cases hij : i = j
  · subst hij
    go_enter Try.func54, Try.ntmps54
    go_upto_region 0 with fail
    go_region
    go_wp2_with fail
    go_end0
    exact ⟨rfl, ((h.set i (gt q i) hi).set i (gt q i) (by rw [List.length_set]; exact hi)).below (Below.refl _ _).drew, grown_drew (gtrans (gtrans (gtrans (grown_set w _ _) (grown_set _ _ _)) (grown_set _ _ _)) (grown_set _ _ _))⟩
  · have n1 : ¬ j * 2 = i * 2 := by omega
    have n2 : ¬ i * 2 = j * 2 := by omega
    have n3 : ¬ j * 2 = i * 2 + 1 := by omega
    have n4 : ¬ i * 2 + 1 = j * 2 := by omega
    have n5 : ¬ j * 2 + 1 = i * 2 := by omega
    have n6 : ¬ i * 2 = j * 2 + 1 := by omega
    have n7 : ¬ j = i := by omega
    go_enter Try.func54, Try.ntmps54
    go_upto_region 0 with fail
    go_region
    go_wp2_with fail
    go_end0
    exact ⟨rfl, ((h.set i (gt q j) hi).set j (gt q i) (by rw [List.length_set]; exact hj)).below (Below.refl _ _).drew, grown_drew (gtrans (gtrans (gtrans (grown_set w _ _) (grown_set _ _ _)) (grown_set _ _ _)) (grown_set _ _ _))⟩

theorem QFr.setF (w : World) (F g : Nat) (u : Value) : QFr w (w.setCell ⟨F, 0, none⟩ u).drew F g g :=
  ⟨rfl, rfl, rfl, by simp, fun k _ h1 _ => heap_setCell_other w ⟨F, 0, none⟩ k u h1, .inl rfl⟩
theorem Qs.shrink {w : World} {B F g cap : Nat} {q : QL} (h : Qs w B F g cap q) (k : Nat) (hk : k ≤ q.length) : Qs (w.setCell ⟨F, 0, none⟩ (QV g k cap)).drew B F g cap (q.take k) := by
  have hl : (q.take k).length = k := by simp; omega
  have hb : Below (w.setCell ⟨F, 0, none⟩ (QV g k cap)).heap.size (w.setCell ⟨F, 0, none⟩ (QV g k cap)) (w.setCell ⟨F, 0, none⟩ (QV g k cap)).drew := (Below.refl _ _).drew
  refine Qs.below ⟨?_, ?_, ?_, h.ne, h.hF⟩ hb
  · rw [hl]; exact World.cell?_setCell_same (w := w) (a := ⟨F, 0, none⟩) (v := QV g k cap) h.c
  · exact (World.frozen?_setCell ..).trans h.fz
  · exact (h.r.cut k hk).of_block (heap_setCell_other w ⟨F, 0, none⟩ g _ (Ne.symm h.ne))

theorem Qs.pushed {w w2 : World} {B F g cap ga capa : Nat} {q : QL} {x : Nat × Nat} {o : Obj} (h : Qs w B F g cap q) (hown : w2.ownsRow B 62 2 (.slice (some ⟨ga, 0, none⟩) (q.length + 1) capa) (q.length + 1) (flatQ q ++ [.int .i64 (x.1 : Int), .float .f64 x.2]))
    (hgr : (w.alloc o).drew.grownBy w2 (QV g q.length cap).ownBlock) (hat : (QV g q.length cap).ownBlock = some ga ∨ ga = w.heap.size + 1) :
    w2.cell? ⟨F, 0, none⟩ = some (QV g q.length cap) ∧ w2.frozen? ⟨F, 0, none⟩ = false ∧ Qs (w2.setCell ⟨F, 0, none⟩ (.slice (some ⟨ga, 0, none⟩) (q.length + 1) capa)) B F ga capa (q ++ [x]) ∧ QFr w (w2.setCell ⟨F, 0, none⟩ (.slice (some ⟨ga, 0, none⟩) (q.length + 1) capa)) F g ga := by
  have hb : Below w.heap.size w (w.alloc o).drew := ((Below.refl _ _).alloc (Nat.le_refl _) _).drew
  have h1 := h.below hb
  have hF := h.lt
  have hs := hb.size
  have hne : some F ≠ (QV g q.length cap).ownBlock := by show some F ≠ some g; simpa using h.ne
  have eF := hgr.block F (by omega) hne
  have c1 : w2.cell? ⟨F, 0, none⟩ = some (QV g q.length cap) := (World.cell?_of_block eF).trans h1.c
  have f1 : w2.frozen? ⟨F, 0, none⟩ = false := (World.frozen?_of_block eF).trans h1.fz
  have hne2 : F ≠ ga := by
    rcases hat with e | e
    · have : some g = some ga := e
      have : g = ga := by simpa using this
      rw [← this]; exact h.ne
    · omega
  have hl : (q ++ [x]).length = q.length + 1 := by simp
  refine ⟨c1, f1, ⟨?_, (World.frozen?_setCell ..).trans f1, ?_, hne2, h.hF⟩, ?_⟩
  · rw [hl]; exact World.cell?_setCell_same (w := w2) (a := ⟨F, 0, none⟩) (v := .slice (some ⟨ga, 0, none⟩) (q.length + 1) capa) c1
  · have hr : RQ w2 B ga capa (q ++ [x]) := by
      unfold RQ
      rw [hl, flatQ_app]
      exact hown
    exact hr.of_block (heap_setCell_other w2 ⟨F, 0, none⟩ ga _ (Ne.symm hne2))
  · refine ⟨hgr.os.trans hb.os, hgr.tape.trans hb.tape, hgr.output.trans hb.output, ?_, fun k hk h2 h3 => ?_, ?_⟩
    · have := hgr.size; simp at this ⊢; omega
    · rw [heap_setCell_other w2 ⟨F, 0, none⟩ k _ h2]
      refine (hgr.block k (by omega) ?_).trans (hb.block k hk)
      show some k ≠ some g
      simpa using h3
    · rcases hat with e | e
      · have : some g = some ga := e
        exact .inl (by simpa using this.symm)
      · exact .inr (by omega)

/-- frontier.Pop: the last entry is handed back, boxed; the slice is one shorter. -/
def PopPost (w w' : World) (B F g cap : Nat) (q : QL) (e : Ending) : Prop :=
  e = .returned (.iface 62 (.agg #[.int .i64 ((gt q (q.length - 1)).1 : Int), .float .f64 (gt q (q.length - 1)).2])) ∧ Qs w' B F g cap (q.take (q.length - 1)) ∧ QFr w w' F g g
set_option maxRecDepth 100000 in
set_option maxHeartbeats 1000000 in
theorem pop_any (B F g cap : Nat) (q : QL) (w : World) (h : Qs w B F g cap q) (hn : 0 < q.length) (hl : q.length ≤ 100000000) :
    Calls Try.prog 52 #[.pointer (some ⟨F, 0, none⟩)] w fun e w' => PopPost w w' B F g cap q e := by
  have c0 := h.c
  have f0 := h.fz
  have c1 := (h.r.at_ (q.length - 1) (by omega)).1
  have c2 := (h.r.at_ (q.length - 1) (by omega)).2
  have hFl := h.lt
  have hgl := h.r.lt.2
  have hcap := h.r.capLe
  have hne := h.ne
  have j1 : (0 : Int) ≤ (q.length : Int) - 1 := by omega
  have j2 : (q.length : Int) - 1 < (q.length : Int) := by omega
  have j3 : ((q.length : Int) - 1).toNat = q.length - 1 := by omega
  go_enter Try.func52, Try.ntmps52
  go_upto_region 1 with fail
  go_region
  obtain ⟨W1, hW1⟩ : ∃ W1, W1 = (w.alloc (Obj.cells #[Value.int IntKind.i64 ↑(gt q (List.length q - 1)).fst, Value.float FloatKind.f64 (gt q (List.length q - 1)).snd] 62)).drew := ⟨_, rfl⟩
  have hb1 : Below w.heap.size w W1 := by rw [hW1]; exact ((Below.refl _ _).alloc (Nat.le_refl _) _).drew
  have r1 : W1.cell? ⟨w.heap.size, 0, none⟩ = some (.int .i64 ((gt q (q.length - 1)).1 : Int)) := by rw [hW1]; simp
  have r2 : W1.cell? ⟨w.heap.size, 1, none⟩ = some (.float .f64 (gt q (q.length - 1)).2) := by rw [hW1]; simp
  rw [← hW1]
  have hq1 := h.below hb1
  have d0 := hq1.c
  have g0 := hq1.fz
  have n1 : ¬ w.heap.size = F := by omega
  have n2 : ¬ F = w.heap.size := by omega
  have hFr := hide (QFr.of_below hb1 F g)
  generalize w.heap.size = bx at *
  clear hW1 c0 f0 c1 c2 hb1 h
  have k1 : (q.length : Int) - 1 ≤ (cap : Int) := by omega
  have k2 : (q.length : Int) ≤ (cap : Int) := by omega
  go_upto_region 2 with fail
  go_region
  go_wp2_with fail
  go_ret
  exact ⟨rfl, hq1.shrink (q.length - 1) (by omega), hFr.out.trans (QFr.setF W1 F g _)⟩

set_option maxRecDepth 100000 in
set_option maxHeartbeats 1000000 in
theorem push_any (B F g cap : Nat) (q : QL) (x : Nat × Nat) (w : World) (h : Qs w B F g cap q) (hB : B ≤ w.heap.size) (hl : q.length ≤ 100000000) :
    Calls Try.prog 53 #[.pointer (some ⟨F, 0, none⟩), .iface 62 (.agg #[.int .i64 (x.1 : Int), .float .f64 x.2])] w fun e w' => e = .returned (.tuple #[]) ∧ ∃ g' cap', Qs w' B F g' cap' (q ++ [x]) ∧ QFr w w' F g g' := by
  obtain ⟨i0, hi0, hz0, hz1, hz2⟩ := info_parts info62
  have c0 := h.c
  have f0 := h.fz
  have hFl := h.lt
  have hgl := h.r.lt
  have hne := h.ne
  go_enter Try.func53, Try.ntmps53
  have hta : ∀ w : World, (Instr.typeAssert (.iface 62 (.agg #[.int .i64 (x.1 : Int), .float .f64 x.2])) 20 62 false).run Try.prog w = .ok (.agg #[.int .i64 (x.1 : Int), .float .f64 x.2]) w := fun _ => by kernel_rfl
  have hown2 := hide (World.ownsRow.drew (World.ownsRow.alloc h.r (.cells #[.int .i64 (x.1 : Int), .float .f64 x.2] 62)))
  have hnews := hide (show ∀ j u, [Value.int .i64 (x.1 : Int), .float .f64 x.2][j]? = some u → (w.alloc (.cells #[.int .i64 (x.1 : Int), .float .f64 x.2] 62)).drew.cell? (Addr.add ⟨w.heap.size, 0, none⟩ j) = some u from World.news_of_block (cs := #[.int .i64 (x.1 : Int), .float .f64 x.2]) (t := 62) (fr := (0, 0)) (heap_alloc_new w _))
  have hone := hide (show ∀ u ∈ [Value.int .i64 (x.1 : Int), .float .f64 x.2], u.oneCell' = true from fun u hu => by simp at hu; rcases hu with rfl | rfl <;> rfl)
  have s1 := hide (show q.length + 1 ≤ maxLen by unfold maxLen; omega)
  have s2 := hide (show (q.length + 1) * 16 ≤ 140737488355328 by omega)
  have s3 := hide (show B ≤ (w.alloc (.cells #[.int .i64 (x.1 : Int), .float .f64 x.2] 62)).drew.heap.size by simp; omega)
  have s4 := hide (show (w.alloc (.cells #[.int .i64 (x.1 : Int), .float .f64 x.2] 62)).drew.heap.size = w.heap.size + 1 by simp)
  go_upto_region 0 with fail
  go_region_law (refine step_append_lies _ (by rfl) _ _ 64 (by rfl) B 62 i0 (.agg #[.int .i64 0, .float .f64 0]) 2 16 Try.underlying64 hi0 hz0 hz1 hz2 rfl (by omega) (QV g q.length cap) q.length (flatQ q) (by simp [Act.eval]) hown2.out ⟨w.heap.size, 0, none⟩ 1 1 [.int .i64 (x.1 : Int), .float .f64 x.2] (by simp [Act.eval]) rfl hnews.out hone.out (by omega) s1.out s2.out s3.out (w.heap.size + 1) s4.out ?_; intro ga capa w2 howna hgra hata hlta; obtain ⟨d0, d1, d2, d3⟩ := h.pushed howna hgra hata)
  all_goals
    go_wp2_with fail
    go_end0
    exact ⟨rfl, _, _, d2, d3⟩
end Go.Proofs.Qxb6628650a
