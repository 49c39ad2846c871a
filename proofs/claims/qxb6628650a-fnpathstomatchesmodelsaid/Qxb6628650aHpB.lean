/-
  container/heap's up (seat b6628650a), at the queue.
-/
import Derived.Test.Qxb6628650aQB
import Derived.Test.Qxb6628650aHp
namespace Go.Proofs.Qxb6628650a
open Go.RowKit
set_option linter.unusedVariables false
attribute [local go_sem ↓] Go.wp_at_zero Go.wp_at_succ

abbrev IV (F : Nat) : Value := .iface 60 (.pointer (some ⟨F, 0, none⟩))

/-- What Swap leaves of the queue. -/
theorem Qs.swapped {w w' : World} {B F g cap i j : Nat} {q : QL} (h : Qs w B F g cap q) (hr : RQ w' B g cap (sw q i j)) (hg : w.grownBy w' (some g)) : Qs w' B F g cap (sw q i j) ∧ QFr w w' F g g := by
  have hF := h.lt
  have e := hg.block F hF (by simpa using h.ne)
  refine ⟨⟨by rw [sw_len]; exact (World.cell?_of_block e).trans h.c, (World.frozen?_of_block e).trans h.fz, hr, h.ne, h.hF⟩, ⟨hg.os, hg.tape, hg.output, hg.size, fun k hk _ h3 => hg.block k hk (by simpa using h3), .inl rfl⟩⟩

set_option maxRecDepth 100000 in
set_option maxHeartbeats 2000000 in
theorem up_any (B F g cap j0 : Nat) (q : QL) (w : World) (h : Qs w B F g cap q) (hj : j0 < q.length) (hl : q.length ≤ 100000000) (hk : ∀ e ∈ q, e.2 ≤ infW) (hu : UpInv q j0) :
    Calls Try.prog 30 #[IV F, .int .i64 j0] w fun e w' => e = .returned (.tuple #[]) ∧ ∃ q', q'.Perm q ∧ Heap q' q'.length ∧ Qs w' B F g cap q' ∧ QFr w w' F g g := by
  have HK := hide hk
  clear hk
  go_enter Try.func30, Try.ntmps30
  go_wp2_with fail
  go_loopg [1, 4] j0 (fun gg a _ wr => ∃ (j : Nat) (cur : QL), gg = j ∧ a = .int .i64 j ∧ j < cur.length ∧ cur.length ≤ 100000000 ∧ cur.Perm q ∧ UpInv cur j ∧ Qs wr B F g cap cur ∧ QFr w wr F g g)
  case atStart => exact ⟨j0, q, rfl, rfl, hj, hl, List.Perm.refl _, hu, h, QFr.refl _ _ _⟩
  case round =>
    obtain ⟨j, cur, hgj, rfl, hjl, hcl, hperm, hinv, hq, hfr⟩ := hrel
    have HG := hide hgj
    have HP := hide hperm
    have HI := hide hinv
    clear hgj hperm hinv h hu
    have hm := method_less F _ wr hq.c
    have kI : ∀ i, i < cur.length → (gt cur i).2 ≤ infW := fun i hi => mem_key (P := fun x => x ≤ infW) (fun e he => HK.out e (HP.out.mem_iff.1 he)) i hi
    have hpj : par j < cur.length := by unfold par; omega
    by_cases hz : j = 0
    · subst hz
      have hq0 : ((0 : Int) - 1).tdiv 2 = 0 := by decide
      go_wp2_with fail
      go_end0
      exact ⟨rfl, cur, HP.out, up_done HI.out (.inl rfl), hq, hfr⟩
    · obtain ⟨i, hi⟩ : ∃ i, i = par j := ⟨_, rfl⟩
      have hq0 : ((j : Int) - 1) / 2 = (i : Int) := by rw [hi]; unfold par; omega
      have hq1 : ((j : Int) - 1).tdiv 2 = (i : Int) := by rw [Int.tdiv_eq_ediv_of_nonneg (by omega)]; exact hq0
      have hij : i < j := by rw [hi]; unfold par; omega
      have hne : ((i : Int) == (j : Int)) = false := by rw [beq_eq_false_iff_ne]; omega
      have HPar := hide hi
      have less := less_any B g cap j i cur wr hq.r hjl (by omega) (kI j hjl) (kI i (by omega))
      have HL := hide less
      clear hi less hpj kI
      by_cases hlt : (gt cur j).2 < (gt cur i).2
      · rw [decide_eq_true hlt] at HL
        have HLt := hide hlt
        clear hlt
        go_wp2_with fail
        refine HL.out.mono ?_
        rintro e w1 ⟨rfl, hb1⟩
        have hq1' := hq.below hb1
        have hfr1 := hfr.trans (QFr.of_below hb1 F g)
        have hm2 := method_swap F _ w1 hq1'.c
        have HSw := hide (swap_any B g cap i j cur w1 hq1'.r (by omega) hjl)
        clear hq hfr hb1 hm HL
        go_wp2_with fail
        refine HSw.out.mono ?_
        rintro e w2 ⟨rfl, hr2, hg2⟩
        obtain ⟨hq2, hfr2⟩ := hq1'.swapped hr2 hg2
        go_wp2_with fail
        go_roundg i
        case measure => rw [HG.out]; exact hij
        case rel => exact ⟨i, sw cur i j, rfl, rfl, by rw [sw_len]; omega, by rw [sw_len]; exact hcl, (sw_perm cur i j (by omega) hjl).trans HP.out, up_step HI.out (by omega) hjl HPar.out HLt.out, hq2, hfr1.trans hfr2⟩
      · rw [decide_eq_false hlt] at HL
        have HLt := hide hlt
        clear hlt
        go_wp2_with fail
        refine HL.out.mono ?_
        rintro e w1 ⟨rfl, hb1⟩
        go_wp2_with fail
        go_end0
        exact ⟨rfl, cur, HP.out, up_done HI.out (.inr (by rw [← HPar.out]; exact HLt.out)), hq.below hb1, hfr.trans (QFr.of_below hb1 F g)⟩
end Go.Proofs.Qxb6628650a
