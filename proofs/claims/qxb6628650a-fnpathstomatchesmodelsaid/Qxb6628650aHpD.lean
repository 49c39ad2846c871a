/-
  container/heap's Push and Pop (seat b6628650a), at the queue.
-/
import Derived.Test.Qxb6628650aHpC
namespace Go.Proofs.Qxb6628650a
open Go.RowKit
set_option linter.unusedVariables false
attribute [local go_sem ↓] Go.wp_at_zero Go.wp_at_succ

abbrev EV (x : Nat × Nat) : Value := .iface 62 (.agg #[.int .i64 (x.1 : Int), .float .f64 x.2])

def HPushPost (w w' : World) (B F g : Nat) (q : QL) (x : Nat × Nat) (e : Ending) : Prop :=
  e = .returned (.tuple #[]) ∧ ∃ g' cap' q', q'.Perm (x :: q) ∧ Heap q' q'.length ∧ Qs w' B F g' cap' q' ∧ QFr w w' F g g'
set_option maxRecDepth 100000 in
set_option maxHeartbeats 2000000 in
theorem hpush_any (B F g cap : Nat) (q : QL) (x : Nat × Nat) (w : World) (h : Qs w B F g cap q) (hB : B ≤ w.heap.size) (hl : q.length ≤ 90000000) (hh : Heap q q.length) (hk : ∀ e ∈ q, e.2 ≤ infW) (hx : x.2 ≤ infW) :
    Calls Try.prog 24 #[IV F, EV x] w fun e w' => HPushPost w w' B F g q x e := by
  have hmp := method_push ⟨F, 0, none⟩ w
  have HPu := hide (push_any B F g cap q x w h hB (by omega))
  have HU := hide (up_start hh x)
  have HK := hide (show ∀ e ∈ q ++ [x], e.2 ≤ infW from fun e he => by
    rcases List.mem_append.1 he with a | a
    · exact hk e a
    · simp at a; rw [a]; exact hx)
  clear hk hh
  go_enter Try.func24, Try.ntmps24
  go_wp2_with fail
  refine HPu.out.mono ?_
  rintro e w1 ⟨rfl, g1, cap1, hq1, hfr1⟩
  have hml := method_len F _ w1 hq1.c
  have hlen : (q ++ [x]).length = q.length + 1 := by simp
  have HLen := hide hlen
  rw [hlen] at hml
  clear hmp hlen
  go_wp2_with fail
  refine (len_any _ _ _ _).mono ?_
  rintro e w2 ⟨rfl, rfl⟩
  have HUp := hide (up_any B F g1 cap1 q.length (q ++ [x]) w2 hq1 (by rw [HLen.out]; omega) (by rw [HLen.out]; omega) HK.out HU.out)
  have e1 : ((q.length + 1 : Nat) : Int) - 1 = (q.length : Int) := by omega
  go_wp2_with fail
  refine HUp.out.mono ?_
  rintro e w3 ⟨rfl, q', hp, hheap, hq3, hfr3⟩
  go_wp2_with fail
  go_end0
  exact ⟨rfl, g1, cap1, q', hp.trans (List.perm_append_singleton x q), hheap, hq3, hfr1.trans hfr3⟩

def HPopPost (w w' : World) (B F g cap : Nat) (q : QL) (e : Ending) : Prop :=
  ∃ x q', e = .returned (EV x) ∧ (x :: q').Perm q ∧ (∀ y ∈ q, x.2 ≤ y.2) ∧ Heap q' q'.length ∧ Qs w' B F g cap q' ∧ QFr w w' F g g
set_option maxRecDepth 100000 in
set_option maxHeartbeats 2000000 in
theorem hpop_any (B F g cap : Nat) (q : QL) (w : World) (h : Qs w B F g cap q) (hn : 0 < q.length) (hl : q.length ≤ 100000000) (hh : Heap q q.length) (hk : ∀ e ∈ q, e.2 ≤ infW) :
    Calls Try.prog 23 #[IV F] w fun e w' => HPopPost w w' B F g cap q e := by
  have hml := method_len F _ w h.c
  have hms := method_swap F _ w h.c
  have HMin := hide (show ∀ y ∈ q, (gt q 0).2 ≤ y.2 from fun y hy => by
    obtain ⟨i, hi, e⟩ := List.getElem_of_mem hy
    have := heap_min hh i hi
    unfold key at this
    rw [show gt q i = y by simp [gt, hi, e]] at this
    exact this)
  have HD := hide (dn_start hh hn)
  have HK := hide hk
  obtain ⟨n, hnn⟩ : ∃ n, q.length = n + 1 := ⟨q.length - 1, by omega⟩
  have HN := hide hnn
  have HSw := hide (swap_any B g cap 0 n q w h.r hn (by omega))
  rw [hnn, Nat.add_sub_cancel] at HD
  rw [hnn] at hml hms
  have hqv := hide (show QV g q.length cap = QV g (n + 1) cap by rw [hnn])
  rw [hqv.out] at HSw
  have hnb : n ≤ 100000000 := by omega
  clear hh hk hnn
  have e1 : ((n + 1 : Nat) : Int) - 1 = (n : Int) := by omega
  go_enter Try.func23, Try.ntmps23
  go_wp2_with fail
  refine (len_any _ _ _ _).mono ?_
  rintro e w0 ⟨rfl, rfl⟩
  go_wp2_with fail
  refine HSw.out.mono ?_
  rintro e w1 ⟨rfl, hr1, hg1⟩
  obtain ⟨hq1, hfr1⟩ := h.swapped hr1 hg1
  have HDn := hide (down_any B F g cap n (sw q 0 n) w1 hq1 (by rw [sw_len]; have := HN.out; omega) (by rw [sw_len]; omega) (fun e he => HK.out e ((sw_perm q 0 n hn (by have := HN.out; omega)).mem_iff.1 he)) HD.out)
  clear hml hms HSw
  go_wp2_with fail
  refine HDn.out.mono ?_
  rintro e w2 ⟨b, rfl, q2, hl2, hp2, hheap2, hx2, hq2, hfr2⟩
  have hl3 : q2.length = n + 1 := by rw [hl2, sw_len]; exact HN.out
  have HL3 := hide hl3
  have HP2 := hide hp2
  have HX2 := hide hx2
  have hmp := method_pop ⟨F, 0, none⟩ w2
  have HPop := hide (pop_any B F g cap q2 w2 hq2 (by have := HL3.out; omega) (by have := HL3.out; have := HN.out; omega))
  clear hl2 hl3 hp2 hx2 HDn
  go_wp2_with fail
  refine HPop.out.mono ?_
  rintro e w3 ⟨rfl, hq3, hfr3⟩
  go_wp2_with fail
  go_ret
  have hl3 := HL3.out
  have hN := HN.out
  have hxx : gt q2 (q2.length - 1) = gt q 0 := by
    rw [hl3, Nat.add_sub_cancel, HX2.out, gt_sw q 0 n n hn (by omega), if_pos rfl]
  refine ⟨gt q2 (q2.length - 1), q2.take (q2.length - 1), rfl, ?_, ?_, ?_, hq3, (hfr1.trans hfr2).trans hfr3⟩
  · have t := take_last (q := q2) (by omega)
    have p : (gt q2 (q2.length - 1) :: q2.take (q2.length - 1)).Perm q2 := by
      have := List.perm_append_singleton (gt q2 (q2.length - 1)) (q2.take (q2.length - 1))
      rw [t] at this
      exact this.symm
    exact p.trans (HP2.out.trans (sw_perm q 0 n hn (by omega)))
  · rw [hxx]; exact HMin.out
  · have := heap_take (q := q2) (n := n) hheap2 (by omega)
    rw [hl3, Nat.add_sub_cancel]
    exact this
end Go.Proofs.Qxb6628650a
