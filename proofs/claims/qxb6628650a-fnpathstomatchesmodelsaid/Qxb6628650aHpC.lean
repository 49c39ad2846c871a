/-
  container/heap's down (seat b6628650a), at the queue, from the root.
-/
import Derived.Test.Qxb6628650aHpB
namespace Go.Proofs.Qxb6628650a
open Go.RowKit
set_option linter.unusedVariables false
attribute [local go_sem ↓] Go.wp_at_zero Go.wp_at_succ

def DnPost (w w' : World) (B F g cap n : Nat) (q : QL) (e : Ending) : Prop :=
  ∃ b : Bool, e = .returned (.bool b) ∧ ∃ q' : QL, q'.length = q.length ∧ q'.Perm q ∧ Heap q' n ∧ gt q' n = gt q n ∧ Qs w' B F g cap q' ∧ QFr w w' F g g

set_option maxRecDepth 100000 in
set_option maxHeartbeats 4000000 in
theorem down_any (B F g cap n : Nat) (q : QL) (w : World) (h : Qs w B F g cap q) (hn : n < q.length) (hl : q.length ≤ 100000000) (hk : ∀ e ∈ q, e.2 ≤ infW) (hd : DnInv q n 0) :
    Calls Try.prog 29 #[IV F, .int .i64 0, .int .i64 n] w fun e w' => DnPost w w' B F g cap n q e := by
  have HK := hide hk
  clear hk
  go_enter Try.func29, Try.ntmps29
  go_wp2_with fail
  go_loopg [7, 8, 9, 10] q.length (fun gg a _ _ _ wr => ∃ (i : Nat) (cur : QL), gg = q.length - i ∧ i < q.length ∧ a = .int .i64 i ∧ cur.length = q.length ∧ cur.Perm q ∧ DnInv cur n i ∧ gt cur n = gt q n ∧ Qs wr B F g cap cur ∧ QFr w wr F g g)
  case atStart => exact ⟨0, q, by omega, by omega, rfl, rfl, List.Perm.refl _, hd, rfl, h, QFr.refl _ _ _⟩
  case round =>
    obtain ⟨i, cur, hgj, hiq, rfl, hlen, hperm, hinv, hx, hq, hfr⟩ := hrel
    have HG := hide hgj
    have HLen := hide hlen
    have HP := hide hperm
    have HI := hide hinv
    have HX := hide hx
    have hcl : q.length ≤ cur.length := by omega
    have hcl2 : cur.length ≤ q.length := by omega
    clear hgj hlen hperm hinv hx h hd
    have kI : ∀ i, i < cur.length → (gt cur i).2 ≤ infW := fun i hi => mem_key (P := fun x => x ≤ infW) (fun e he => HK.out e (HP.out.mem_iff.1 he)) i hi
    by_cases h1 : 2 * i + 1 < n
    · by_cases h2 : 2 * i + 2 < n
      · have HLa := hide (less_any B g cap (2 * i + 2) (2 * i + 1) cur wr hq.r (by omega) (by omega) (kI _ (by omega)) (kI _ (by omega)))
        have hmA := method_less F _ wr hq.c
        by_cases hc : (gt cur (2 * i + 2)).2 < (gt cur (2 * i + 1)).2
        · rw [decide_eq_true hc] at HLa
          have HMin := hide (show ∀ c, 0 < c → c < n → par c = i → key cur (2 * i + 2) ≤ key cur c from fun c a b d => by
            have : c = 2 * i + 1 ∨ c = 2 * i + 2 := by unfold par at d; omega
            unfold key
            rcases this with rfl | rfl <;> omega)
          clear hc
          go_wp2_with fail
          refine HLa.out.mono ?_
          rintro e wA ⟨rfl, hbA⟩
          have hqA := hq.below hbA
          have hfrA := hfr.trans (QFr.of_below hbA F g)
          clear hq hfr hbA hmA HLa
          have HLs := hide (less_any B g cap (2 * i + 2) i cur wA hqA.r (by omega) (by omega) (kI _ (by omega)) (kI _ (by omega)))
          have hmL := method_less F _ wA hqA.c
          by_cases hlt : (gt cur (2 * i + 2)).2 < (gt cur i).2
          · rw [decide_eq_true hlt] at HLs
            have HLt := hide hlt
            clear hlt
            go_wp2_with fail
            refine HLs.out.mono ?_
            rintro e wB ⟨rfl, hbB⟩
            have hqB := hqA.below hbB
            have hfrB := hfrA.trans (QFr.of_below hbB F g)
            have hm2 := method_swap F _ wB hqB.c
            have HSw := hide (swap_any B g cap i (2 * i + 2) cur wB hqB.r (by omega) (by omega))
            clear hbB hmL HLs
            go_wp2_with fail
            refine HSw.out.mono ?_
            rintro e wC ⟨rfl, hrC, hgC⟩
            obtain ⟨hqC, hfrC⟩ := hqB.swapped hrC hgC
            go_wp2_with fail
            go_roundg (q.length - (2 * i + 2))
            case measure => rw [HG.out]; omega
            case rel => exact ⟨2 * i + 2, sw cur i (2 * i + 2), rfl, by omega, by go_num, by rw [sw_len]; exact HLen.out, (sw_perm cur i _ (by omega) (by omega)).trans HP.out, dn_step HI.out (by omega) (by omega) (by omega) (by unfold par; omega) HMin.out HLt.out, by rw [gt_sw cur i _ _ (by omega) (by omega), if_neg (by omega), if_neg (by omega)]; exact HX.out, hqC, hfrB.trans hfrC⟩
          · rw [decide_eq_false hlt] at HLs
            have HLt := hide hlt
            clear hlt
            go_wp2_with fail
            refine HLs.out.mono ?_
            rintro e wB ⟨rfl, hbB⟩
            go_wp2_with fail
            go_ret
            refine ⟨_, rfl, cur, HLen.out, HP.out, dn_done HI.out (fun c h1 h2 h3 => ?_), HX.out, hqA.below hbB, hfrA.trans (QFr.of_below hbB F g)⟩
            have hmn := HMin.out c h1 h2 h3
            have hl0 := HLt.out
            unfold key at hmn ⊢
            omega
        · rw [decide_eq_false hc] at HLa
          have HMin := hide (show ∀ c, 0 < c → c < n → par c = i → key cur (2 * i + 1) ≤ key cur c from fun c a b d => by
            have : c = 2 * i + 1 ∨ c = 2 * i + 2 := by unfold par at d; omega
            unfold key
            rcases this with rfl | rfl <;> omega)
          clear hc
          go_wp2_with fail
          refine HLa.out.mono ?_
          rintro e wA ⟨rfl, hbA⟩
          have hqA := hq.below hbA
          have hfrA := hfr.trans (QFr.of_below hbA F g)
          clear hq hfr hbA hmA HLa
          have HLs := hide (less_any B g cap (2 * i + 1) i cur wA hqA.r (by omega) (by omega) (kI _ (by omega)) (kI _ (by omega)))
          have hmL := method_less F _ wA hqA.c
          by_cases hlt : (gt cur (2 * i + 1)).2 < (gt cur i).2
          · rw [decide_eq_true hlt] at HLs
            have HLt := hide hlt
            clear hlt
            go_wp2_with fail
            refine HLs.out.mono ?_
            rintro e wB ⟨rfl, hbB⟩
            have hqB := hqA.below hbB
            have hfrB := hfrA.trans (QFr.of_below hbB F g)
            have hm2 := method_swap F _ wB hqB.c
            have HSw := hide (swap_any B g cap i (2 * i + 1) cur wB hqB.r (by omega) (by omega))
            clear hbB hmL HLs
            go_wp2_with fail
            refine HSw.out.mono ?_
            rintro e wC ⟨rfl, hrC, hgC⟩
            obtain ⟨hqC, hfrC⟩ := hqB.swapped hrC hgC
            go_wp2_with fail
            go_roundg (q.length - (2 * i + 1))
            case measure => rw [HG.out]; omega
            case rel => exact ⟨2 * i + 1, sw cur i (2 * i + 1), rfl, by omega, by go_num, by rw [sw_len]; exact HLen.out, (sw_perm cur i _ (by omega) (by omega)).trans HP.out, dn_step HI.out (by omega) (by omega) (by omega) (by unfold par; omega) HMin.out HLt.out, by rw [gt_sw cur i _ _ (by omega) (by omega), if_neg (by omega), if_neg (by omega)]; exact HX.out, hqC, hfrB.trans hfrC⟩
          · rw [decide_eq_false hlt] at HLs
            have HLt := hide hlt
            clear hlt
            go_wp2_with fail
            refine HLs.out.mono ?_
            rintro e wB ⟨rfl, hbB⟩
            go_wp2_with fail
            go_ret
            refine ⟨_, rfl, cur, HLen.out, HP.out, dn_done HI.out (fun c h1 h2 h3 => ?_), HX.out, hqA.below hbB, hfrA.trans (QFr.of_below hbB F g)⟩
            have hmn := HMin.out c h1 h2 h3
            have hl0 := HLt.out
            unfold key at hmn ⊢
            omega
      · have HMin := hide (show ∀ c, 0 < c → c < n → par c = i → key cur (2 * i + 1) ≤ key cur c from fun c a b d => by
          have : c = 2 * i + 1 := by unfold par at d; omega
          rw [this]; exact Nat.le_refl _)
        have HLs := hide (less_any B g cap (2 * i + 1) i cur wr hq.r (by omega) (by omega) (kI _ (by omega)) (kI _ (by omega)))
        have hmL := method_less F _ wr hq.c
        by_cases hlt : (gt cur (2 * i + 1)).2 < (gt cur i).2
        · rw [decide_eq_true hlt] at HLs
          have HLt := hide hlt
          clear hlt
          go_wp2_with fail
          refine HLs.out.mono ?_
          rintro e wB ⟨rfl, hbB⟩
          have hqB := hq.below hbB
          have hfrB := hfr.trans (QFr.of_below hbB F g)
          have hm2 := method_swap F _ wB hqB.c
          have HSw := hide (swap_any B g cap i (2 * i + 1) cur wB hqB.r (by omega) (by omega))
          clear hbB hmL HLs
          go_wp2_with fail
          refine HSw.out.mono ?_
          rintro e wC ⟨rfl, hrC, hgC⟩
          obtain ⟨hqC, hfrC⟩ := hqB.swapped hrC hgC
          go_wp2_with fail
          go_roundg (q.length - (2 * i + 1))
          case measure => rw [HG.out]; omega
          case rel => exact ⟨2 * i + 1, sw cur i (2 * i + 1), rfl, by omega, by go_num, by rw [sw_len]; exact HLen.out, (sw_perm cur i _ (by omega) (by omega)).trans HP.out, dn_step HI.out (by omega) (by omega) (by omega) (by unfold par; omega) HMin.out HLt.out, by rw [gt_sw cur i _ _ (by omega) (by omega), if_neg (by omega), if_neg (by omega)]; exact HX.out, hqC, hfrB.trans hfrC⟩
        · rw [decide_eq_false hlt] at HLs
          have HLt := hide hlt
          clear hlt
          go_wp2_with fail
          refine HLs.out.mono ?_
          rintro e wB ⟨rfl, hbB⟩
          go_wp2_with fail
          go_ret
          refine ⟨_, rfl, cur, HLen.out, HP.out, dn_done HI.out (fun c h1 h2 h3 => ?_), HX.out, hq.below hbB, hfr.trans (QFr.of_below hbB F g)⟩
          have hmn := HMin.out c h1 h2 h3
          have hl0 := HLt.out
          unfold key at hmn ⊢
          omega
    · go_wp2_with fail
      go_ret
      exact ⟨_, rfl, cur, HLen.out, HP.out, dn_done HI.out (fun c a b d => by unfold par at d; omega), HX.out, hq, hfr⟩
end Go.Proofs.Qxb6628650a
