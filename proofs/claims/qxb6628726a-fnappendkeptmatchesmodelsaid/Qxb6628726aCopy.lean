/-
  'copy' over a row of pairs that the call owns (seat b6628726a).
-/
import Derived.Test.Qxb6628726aMem
import Derived.Laws.CopyOwn
namespace Go.Proofs.Qxb6628726a
open Go.RowKit
set_option linter.unusedVariables false

theorem run_copy_wide {P : Program} (w : World) (dT sT ty elem : TypeId) (sz : Nat) (g o dLen dCap : Nat) (a : Addr) (sLen sCap : Nat) (cur : Array Value) (t : TypeId) (cs : List Value)
    (hu : P.underlying dT = some (.slice elem)) (hs : (P.info? elem).map (·.size) = some sz)
    (hg : w.heap[g]? = some (.cells cur t (0, 0))) (hn : cs.length = Nat.min sLen dLen * sz)
    (hsrc : ∀ j v, cs[j]? = some v → w.cell? (a.add j) = some v) (hfit : o + cs.length ≤ cur.size) (h1 : ∀ v ∈ cs, v.oneCell' = true) :
    (Builtin.copy_ #[dT, sT] ty #[.slice (some ⟨g, o, none⟩) dLen dCap, .slice (some a) sLen sCap]).run P w =
      .ok (goInt (Nat.min sLen dLen)) (w.setRow g (cur.toList.take o ++ cs ++ cur.toList.drop (o + cs.length)).toArray) := by
  have hl := run_loadCells_list (P := P) w a cs hsrc
  have hst := run_storeCells_at P g o t cs 0 cur w hg (by simpa using hfit) h1
  cases hq : P.info? elem with
  | none => simp [hq] at hs
  | some i =>
    have hi : i.size = sz := by simpa [hq] using hs
    simp [Builtin.copy_, run_underlying hu, Builtin.lenOf, Builtin.firstCells, sizeOf, typeInfo, hq, hi, ← hn, hl, hst]


theorem size75 : (Try.prog.info? 75).map (·.size) = some 2 := by kernel_rfl
theorem flat_one : ∀ (l : List (Int × Int)) (v : Value), v ∈ flat l → v.oneCell' = true
  | p :: l, v, h => by
    simp only [flat, List.mem_cons] at h
    rcases h with rfl | rfl | h
    · rfl
    · rfl
    · exact flat_one l v h
theorem flat_drop : ∀ (l : List (Int × Int)) (m : Nat), flat (l.drop m) = (flat l).drop (m * 2)
  | l, 0 => by simp
  | [], m + 1 => by simp [flat]
  | p :: l, m + 1 => by rw [show (m + 1) * 2 = m * 2 + 2 by omega]; simp [flat, flat_drop l m]

theorem copy_row (w : World) (B : Nat) (tk : List (Int × Int)) (g cap m : Nat) (a : Addr) (c' : Nat) (hr : Row w B 75 (.slice (some ⟨g, 0, none⟩) tk.length cap) tk) (hm : m ≤ tk.length) (ha : m < tk.length → a = ⟨g, m * 2, none⟩) :
    ∃ w1, (∀ ty, (Builtin.copy_ #[56, 56] ty #[.slice (some ⟨g, 0, none⟩) tk.length cap, .slice (some a) (tk.length - m) c']).run Try.prog w = .ok (.int .i64 ((tk.length - m : Nat) : Int)) w1) ∧ w.grownBy w1 (some g) ∧ Row w1 B 75 (.slice (some ⟨g, 0, none⟩) (tk.length - m) cap) (tk.drop m) := by
  rcases hr.2 with ⟨h', _⟩ | ⟨g', cap', cur, h', hb, hg, hnc, hcm, hcs, htake⟩
  · simp at h'
  · simp only [Value.slice.injEq, Option.some.injEq, Addr.mk.injEq, and_true, true_and] at h'
    obtain ⟨rfl, rfl⟩ := h'
    have hlen : (flat (tk.drop m)).length = (tk.length - m) * 2 := by rw [flat_len, List.length_drop]
    have hmin : Nat.min (tk.length - m) tk.length = tk.length - m := by simp
    refine ⟨_, fun ty => (run_copy_wide (P := Try.prog) w 56 56 ty 75 2 g 0 tk.length cap a (tk.length - m) c' cur 75 (flat (tk.drop m)) Try.underlying56 size75 hg (by rw [hlen, hmin]) ?_ (by rw [hlen, hcs]; omega) (flat_one _)).trans (by rw [hmin]; rfl), ?_, ?_⟩
    · intro j v hj
      have hjl : j < (tk.length - m) * 2 := by rw [← hlen]; exact (List.getElem?_eq_some_iff.1 hj).1
      rw [ha (by omega)]
      have hadd : (⟨g, m * 2, none⟩ : Addr).add j = ⟨g, m * 2 + j, none⟩ := by unfold Addr.add; split <;> simp_all
      rw [hadd, World.ownsRow.cellAt hr (m * 2 + j) (by omega)]
      rw [flat_drop, List.getElem?_drop] at hj
      exact hj
    · exact ⟨rfl, rfl, rfl, by simp, fun k _ hk => setRow_other w g k _ (fun e => hk (by simp [e]))⟩
    · unfold Row
      rw [List.length_drop]
      refine ⟨hlen, .inr ⟨g, cap, _, rfl, hb, setRow_heap w g cur _ 75 _ hg, by omega, hcm, ?_, ?_⟩⟩
      · simp only [List.size_toArray, List.length_append, List.length_take, List.length_drop, Array.length_toList, hlen]
        omega
      · simp only [List.take_zero, List.nil_append]
        rw [← hlen]
        exact List.take_left
end Go.Proofs.Qxb6628726a
