/-
  WALKS of seat b6628726a: keptWindows, ZZnewRateLog, keptBuild.
-/
import Derived.Test.Qxb6628726aTwo
namespace Go.Proofs.Qxb6628726a
open Go.RowKit
set_option linter.unusedVariables false
attribute [local go_sem ↓] Go.wp_at_zero Go.wp_at_succ

theorem info66 : (Try.prog.info? 66).map (fun i => (i.zero, i.size, i.bytes)) = some (some (.agg #[.int .i64 0, .int .i64 0]), 2, 16) := by kernel_rfl
theorem info77 : (Try.prog.info? 77).map (fun i => (i.zero, i.size, i.bytes)) = some (some (.agg #[.int .i64 0, .int .i64 0]), 2, 16) := by kernel_rfl

set_option maxHeartbeats 400000 in
theorem zzwindow_any (a b : Int) (w : World) :
    Calls Try.prog 31 #[.int .i64 a, .int .i64 b] w fun e w' => e = .returned (.agg #[.int .i64 a, .int .i64 b]) ∧ w' = w.alloc (.cells #[.int .i64 a, .int .i64 b] 66) := by
  go_enter Try.func31, Try.ntmps31
  go_wp2_with fail
  exact bodyPost_ret (v := .agg #[.int .i64 a, .int .i64 b]) (by simp [results, Try.results31, go_sem]) rfl ⟨rfl, rfl⟩

/-- A row whose first k pairs are those of l. -/
theorem row_of {w : World} {B : Nat} {e : TypeId} {v : Value} {n : Nat} {xs : List Value} {l : List (Int × Int)} (h : w.ownsRow B e 2 v n xs) (hn : n = l.length) (hx : ∀ i, i < n → xs[i * 2]? = some (.int .i64 (l.getD i (0, 0)).1) ∧ xs[i * 2 + 1]? = some (.int .i64 (l.getD i (0, 0)).2)) : Row w B e v l := by
  have e : xs = flat l := by
    apply List.ext_getElem?
    intro i
    have h1 := h.1
    by_cases c : i < n * 2
    · have hh := hx (i / 2) (by omega)
      have hf := flat_at l (i / 2) (by omega)
      rcases Nat.mod_two_eq_zero_or_one i with m | m
      · have e2 : i / 2 * 2 = i := by omega
        rw [e2] at hh hf
        rw [hh.1, hf.1]
      · have e2 : i / 2 * 2 + 1 = i := by omega
        rw [e2] at hh hf
        rw [hh.2, hf.2]
    · rw [List.getElem?_eq_none (by omega), List.getElem?_eq_none (by rw [flat_len]; omega)]
  subst hn
  rw [e] at h
  exact h

set_option maxRecDepth 100000 in
set_option maxHeartbeats 1000000 in
theorem windows_any (v : Value) (l : List (Int × Int)) (w : World) (hrd : Rd2 w v l) (hl : l.length ≤ 1000000) :
    Calls Try.prog 19 #[v] w fun e w' => ∃ v' g, e = .returned v' ∧ v'.ownBlock = some g ∧ Row w' w.heap.size 66 v' l ∧ Below w.heap.size w w' := by
  obtain ⟨i0, hi0, hz0, hz1, hz2⟩ := info_parts info66
  obtain ⟨a, cap, rfl, hc⟩ := hrd
  go_enter Try.func19, Try.ntmps19
  go_wp2_with (at_make; refine wpList_make_full _ (by rfl) _ _ 49 (by rfl) w.heap.size 66 i0 (.agg #[.int .i64 0, .int .i64 0]) 2 Try.underlying49 hi0 hz0 hz1 .i64 .i64 _ _ l.length (by rfl) (by rfl) (by rfl) (by rfl) ?c1 ?c2 ?c3 ?_)
  case c1 => rw [hz2]; omega
  case c2 => unfold maxLen; omega
  case c3 => exact Nat.le_refl _
  intro w1 hown hgr
  go_wp2_with fail
  go_loopg [4] l.length (fun g i wr => ∃ (k : Nat) (xs : List Value), g = l.length - k ∧ k ≤ l.length ∧ i = .int .i64 k ∧ wr.ownsRow w.heap.size 66 2 (.slice (some ⟨w.heap.size, 0, none⟩) l.length l.length) l.length xs ∧ (∀ j, j < k → xs[j * 2]? = some (.int .i64 (l.getD j (0, 0)).1) ∧ xs[j * 2 + 1]? = some (.int .i64 (l.getD j (0, 0)).2)) ∧ Below w.heap.size w wr)
  case atStart => exact ⟨0, _, by omega, by omega, rfl, hown, fun j hj => by omega, (Below.refl _ _).grown hgr (Nat.le_refl _) (fun k hk => by cases hk)⟩
  case round =>
    obtain ⟨k, xs, hgk, hk, rfl, hown', hxs, hbel⟩ := hrel
    have HG := hide hgk
    have HX := hide hxs
    clear hgk hxs hown hgr
    by_cases hlt : k < l.length
    · obtain ⟨b, off, rfl, hb, hcells⟩ := hc (by omega)
      have q1 : wr.cell? ⟨b, off + k * 2, none⟩ = some (.int .i64 (l.getD k (0, 0)).1) := (hbel.cell (p := ⟨b, off + k * 2, none⟩) hb).trans (hcells k hlt).1
      have q2 : wr.cell? ⟨b, off + k * 2 + 1, none⟩ = some (.int .i64 (l.getD k (0, 0)).2) := (hbel.cell (p := ⟨b, off + k * 2 + 1, none⟩) hb).trans (hcells k hlt).2
      obtain ⟨x, hx⟩ : ∃ x, l.getD k (0, 0) = x := ⟨_, rfl⟩
      rw [hx] at q1 q2
      have HXk := hide hx
      obtain ⟨x1, x2⟩ := x
      simp only at q1 q2
      clear hx hcells hc
      have i1 : (0 : Int) ≤ (k : Int) := by omega
      have i2 : (k : Int) < (l.length : Int) := by omega
      have hlen := hown'.1
      obtain ⟨y1, hy1⟩ : ∃ y, wr.cell? ⟨w.heap.size, k * 2, none⟩ = some y := by rw [hown'.cellAt _ (by omega)]; exact ⟨_, List.getElem?_eq_getElem (by omega)⟩
      obtain ⟨y2, hy2⟩ : ∃ y, wr.cell? ⟨w.heap.size, k * 2 + 1, none⟩ = some y := by rw [hown'.cellAt _ (by omega)]; exact ⟨_, List.getElem?_eq_getElem (by omega)⟩
      have hf1 := hown'.frozenAt (k * 2)
      have hf2 := hown'.frozenAt (k * 2 + 1)
      have hgw : w.heap.size < wr.heap.size := World.block_lt_of_cell? _ _ hy1
      have hbw : b < wr.heap.size := World.block_lt_of_cell? _ _ q1
      go_upto_region 5 with fail
      go_region_with (go_at_call 31; refine (zzwindow_any _ _ _).mono ?_; rintro e w1 ⟨rfl, hw1⟩; subst hw1)
      all_goals
        go_wp2_with fail
        go_roundg (l.length - (k + 1))
        case measure => rw [HG.out]; omega
        case rel =>
          refine ⟨k + 1, (xs.set (k * 2) (.int .i64 x1)).set (k * 2 + 1) (.int .i64 x2), rfl, by omega, by go_num, ?_, ?_, ?_⟩
          · exact World.ownsRow.drew (World.ownsRow.alloc (World.ownsRow.stored (World.ownsRow.stored hown' _ _).1 _ _).1 _)
          · intro j hj
            by_cases c : j = k
            · subst c
              rw [HXk.out, List.getElem?_set_ne (by omega), List.getElem?_set_self (by omega), List.getElem?_set_self (by rw [List.length_set]; omega)]
              exact ⟨rfl, rfl⟩
            · rw [List.getElem?_set_ne (by omega), List.getElem?_set_ne (by omega), List.getElem?_set_ne (by omega), List.getElem?_set_ne (by omega)]
              exact HX.out j (by omega)
          · exact (((hbel.setCell (p := ⟨w.heap.size, k * 2, none⟩) (Nat.le_refl _) _).setCell (p := ⟨w.heap.size, k * 2 + 1, none⟩) (Nat.le_refl _) _).alloc (by simp; omega) _).drew
    · go_wp2_with fail
      go_ret
      exact ⟨_, _, rfl, rfl, row_of hown' rfl fun j hj => HX.out j (by omega), hbel⟩

theorem run_make77 (n : Nat) (hn : n ≤ 1000000) : ∃ cs : Array Value, cs.size = n * 2 ∧ (∀ w : World, (Instr.makeSlice 57 (.int .i64 (n : Int)) (.int .i64 (n : Int))).run Try.prog w = .ok (.slice (some ⟨w.heap.size, 0, none⟩) n n) (w.alloc (.cells cs 77))) ∧ cs.toList = flat (List.replicate n (0, 0)) := by
  obtain ⟨i0, hi0, hz0, hz1, hz2⟩ := info_parts info77
  refine ⟨madeCells #[.int .i64 0, .int .i64 0] (n * 2), ?_, fun w => ?_, ?_⟩
  · exact size_madeCells _ _
  · have hr := run_make (P := Try.prog) w 57 77 i0 (.agg #[.int .i64 0, .int .i64 0]) Try.underlying57 hi0 hz0 .i64 .i64 n n (by omega) (Int.le_refl _) (by rw [hz2]; omega) (by omega)
    rw [hz1] at hr
    exact hr
  · apply List.ext_getElem?
    intro i
    by_cases c : i < n * 2
    · have hf := flat_at (List.replicate n (0, 0)) (i / 2) (by simp; omega)
      have hg : (List.replicate n ((0 : Int), (0 : Int))).getD (i / 2) (0, 0) = (0, 0) := by
        simp [List.getElem?_replicate]; split <;> rfl
      rw [hg] at hf
      rcases Nat.mod_two_eq_zero_or_one i with m | m
      · have e2 : i / 2 * 2 = i := by omega
        rw [e2] at hf
        rw [hf.1]
        simp [madeCells, c, m]
      · have e2 : i / 2 * 2 + 1 = i := by omega
        rw [e2] at hf
        rw [hf.2]
        simp [madeCells, c, m]
    · rw [List.getElem?_eq_none (by simp [madeCells]; omega), List.getElem?_eq_none (by rw [flat_len]; simp; omega)]

theorem ns_zero : ns 0 = 0 := by unfold ns; omega
theorem sc_zero : sc 0 = 0 := by unfold sc; omega

theorem newTwo (w W1 : World) (B g1 g2 : Nat) (wu wc : Value) (lu lc : List (Int × Int)) (gu gc : Nat) (csu csc : Array Value) (hu : Row w B 66 wu lu) (hc : Row w B 66 wc lc) (hgu : wu.ownBlock = some gu) (hgc : wc.ownBlock = some gc) (hne : gu ≠ gc) (h1 : lu.length ≤ 1000000) (h2 : lc.length ≤ 1000000) (hB : B ≤ w.heap.size)
    (hs1 : csu.size = lu.length * 2) (hf1 : csu.toList = flat (List.replicate lu.length (0, 0))) (hs2 : csc.size = lc.length * 2) (hf2 : csc.toList = flat (List.replicate lc.length (0, 0)))
    (hbw : Below w.heap.size w W1) (hsz : W1.heap.size = w.heap.size + 2) (hg1 : W1.heap[g1]? = some (.cells csu 77 (0, 0))) (hg2 : W1.heap[g2]? = some (.cells csc 77 (0, 0))) (hw1 : w.heap.size ≤ g1) (hw2 : w.heap.size ≤ g2) (h12 : g1 ≠ g2) :
    Two (W1.alloc (.cells #[wu, .int .u64 0, .int .i64 0, .pointer none, .slice none 0 0, .slice (some ⟨g1, 0, none⟩) lu.length lu.length, .bool false, .int .i64 0, wc, .int .u64 0, .int .i64 0, .pointer none, .slice none 0 0, .slice (some ⟨g2, 0, none⟩) lc.length lc.length, .bool true, .int .i64 0] 61)) B (w.heap.size + 2)
      ⟨wu, .slice none 0 0, .slice (some ⟨g1, 0, none⟩) lu.length lu.length, 0, false, lu, [], List.replicate lu.length (0, 0)⟩ ⟨wc, .slice none 0 0, .slice (some ⟨g2, 0, none⟩) lc.length lc.length, 0, true, lc, [], List.replicate lc.length (0, 0)⟩ := by
  obtain ⟨O, hO⟩ : ∃ O : Obj, O = .cells #[wu, .int .u64 0, .int .i64 0, .pointer none, .slice none 0 0, .slice (some ⟨g1, 0, none⟩) lu.length lu.length, .bool false, .int .i64 0, wc, .int .u64 0, .int .i64 0, .pointer none, .slice none 0 0, .slice (some ⟨g2, 0, none⟩) lc.length lc.length, .bool true, .int .i64 0] 61 := ⟨_, rfl⟩
  have lgu := (World.ownsRow.lt hu gu hgu).2
  have lgc := (World.ownsRow.lt hc gc hgc).2
  have l1 := (Array.getElem?_eq_some_iff.1 hg1).1
  have l2 := (Array.getElem?_eq_some_iff.1 hg2).1
  have hb2 : Below w.heap.size w (W1.alloc O) := hbw.alloc hbw.size _
  have cl : ∀ j (hj : j < 16), (W1.alloc O).cell? ⟨w.heap.size + 2, j, none⟩ = (#[wu, .int .u64 0, .int .i64 0, .pointer none, .slice none 0 0, .slice (some ⟨g1, 0, none⟩) lu.length lu.length, .bool false, .int .i64 0, wc, .int .u64 0, .int .i64 0, .pointer none, .slice none 0 0, .slice (some ⟨g2, 0, none⟩) lc.length lc.length, .bool true, .int .i64 0] : Array Value)[j]? := by
    intro j hj
    rw [← hsz, hO]
    exact cell_of_row _ _ _ _ 61 (0, 0) (heap_alloc_new W1 _)
  have fzz : ∀ j, (W1.alloc O).frozen? ⟨w.heap.size + 2, j, none⟩ = false := by
    intro j
    rw [← hsz, hO]
    exact frozen_of_row _ _ _ _ 61 (heap_alloc_new W1 _)
  have mkRow : ∀ (g : Nat) (cs : Array Value) (n : Nat), cs.size = n * 2 → n ≤ 1000000 → cs.toList = flat (List.replicate n (0, 0)) → w.heap.size ≤ g → g < W1.heap.size → W1.heap[g]? = some (.cells cs 77 (0, 0)) → Row (W1.alloc O) B 77 (.slice (some ⟨g, 0, none⟩) n n) (List.replicate n (0, 0)) := by
    intro g cs n hs hn hf hw hl hg
    unfold Row
    rw [List.length_replicate]
    refine ⟨by rw [flat_len, List.length_replicate], .inr ⟨g, n, cs, rfl, by omega, ?_, Nat.le_refl _, by unfold maxLen; omega, hs, ?_⟩⟩
    · rw [Below.heap_alloc W1 _ g hl]; exact hg
    · rw [hf]; apply List.take_of_length_le; rw [flat_len, List.length_replicate]; exact Nat.le_refl _
  have ru := Row.below hu hb2
  have rc := Row.below hc hb2
  have rnil : Row (W1.alloc O) B 75 (.slice none 0 0) [] := World.ownsRow_nil _ _ _ _
  have apw : ∀ (v : Value) (a b : Nat), v.ownBlock = some a → a ≠ b → Apart v.ownBlock (some b) := fun v a b e h => .inr (by rw [e]; simpa using h)
  rw [← hO]
  refine ⟨⟨⟨cl 0 (by omega), (cl 1 (by omega)).trans (by rw [ns_zero]; rfl), (cl 2 (by omega)).trans (by rw [sc_zero]; rfl), cl 3 (by omega), cl 4 (by omega), cl 5 (by omega), cl 6 (by omega), cl 7 (by omega), fzz⟩, ru, rnil, mkRow g1 csu _ hs1 h1 hf1 hw1 l1 hg1, apw _ _ _ hgu (by omega), .inl rfl, .inr (by simp [Value.ownBlock]; omega), .inr (by rw [hgu]; simp [Value.ownBlock]), .inr (by rw [hgu]; simp [Value.ownBlock]; omega), .inl rfl, .inr (by simp [Value.ownBlock]), by omega⟩,
    ⟨⟨cl 8 (by omega), (cl 9 (by omega)).trans (by rw [ns_zero]; rfl), (cl 10 (by omega)).trans (by rw [sc_zero]; rfl), cl 11 (by omega), cl 12 (by omega), cl 13 (by omega), cl 14 (by omega), cl 15 (by omega), fzz⟩, rc, rnil, mkRow g2 csc _ hs2 h2 hf2 hw2 l2 hg2, apw _ _ _ hgc (by omega), .inl rfl, .inr (by simp [Value.ownBlock]; omega), .inr (by rw [hgc]; simp [Value.ownBlock]), .inr (by rw [hgc]; simp [Value.ownBlock]; omega), .inl rfl, .inr (by simp [Value.ownBlock]), by omega⟩, ?_, by have := hb2.size; omega⟩
  intro b h h'
  have inF : ∀ (v : Value) (a g n : Nat) (B0 : Nat) (lm : Bool) (x y z : List (Int × Int)), v.ownBlock = some a → InF ⟨v, .slice none 0 0, .slice (some ⟨g, 0, none⟩) n n, B0, lm, x, y, z⟩ b → b = a ∨ b = g := by
    intro v a g n B0 lm x y z hv hF
    rcases hF with e | e | e
    · left; have e' : v.ownBlock = some b := e; rw [hv] at e'; simpa using e'.symm
    · cases e
    · right; simpa [Value.ownBlock] using Eq.symm e
  have k1 := inF _ _ _ _ _ _ _ _ _ hgu h
  have k2 := inF _ _ _ _ _ _ _ _ _ hgc h'
  omega

set_option maxRecDepth 100000 in
set_option maxHeartbeats 1000000 in
theorem newLog_any (wu wc : Value) (lu lc : List (Int × Int)) (gu gc B : Nat) (w : World) (hu : Row w B 66 wu lu) (hc : Row w B 66 wc lc) (hgu : wu.ownBlock = some gu) (hgc : wc.ownBlock = some gc) (hne : gu ≠ gc) (h1 : lu.length ≤ 1000000) (h2 : lc.length ≤ 1000000) (hB : B ≤ w.heap.size) :
    Calls Try.prog 18 #[wu, wc] w fun e w' => ∃ L s t, e = .returned (.pointer (some ⟨L, 0, none⟩)) ∧ Two w' B L s t ∧ s.base = 0 ∧ t.base = 0 ∧ s.lim = false ∧ t.lim = true ∧ s.wins = lu ∧ t.wins = lc ∧ s.tk = [] ∧ t.tk = [] ∧ s.cn = List.replicate lu.length (0, 0) ∧ t.cn = List.replicate lc.length (0, 0) ∧ Below w.heap.size w w' := by
  obtain ⟨csu, hsu, hmu, hfu⟩ := run_make77 lu.length h1
  obtain ⟨csc, hsc, hmc, hfc⟩ := run_make77 lc.length h2
  obtain ⟨au, capu, rfl⟩ := slice_form hu
  obtain ⟨ac, capc, rfl⟩ := slice_form hc
  go_enter Try.func18, Try.ntmps18
  go_upto_region 1 with fail
  go_region
  · go_wp2_with fail
    go_ret
    refine ⟨w.heap.size + 2, _, _, rfl, newTwo w ((w.alloc (.cells csu 77)).alloc (.cells csc 77)).drew B w.heap.size (w.heap.size + 1) _ _ lu lc gu gc csu csc hu hc hgu hgc hne h1 h2 hB hsu hfu hsc hfc ?_ ?_ ?_ ?_ ?_ ?_ ?_, rfl, rfl, rfl, rfl, rfl, rfl, rfl, rfl, rfl, rfl, ?_⟩
    · exact (((Below.refl _ _).alloc (Nat.le_refl _) _).alloc (by simp) _).drew
    · simp
    · show ((w.alloc (.cells csu 77)).alloc (.cells csc 77)).heap[w.heap.size]? = _
      rw [Below.heap_alloc _ _ _ (by simp)]; exact heap_alloc_new w _
    · show ((w.alloc (.cells csu 77)).alloc (.cells csc 77)).heap[w.heap.size + 1]? = _
      have := heap_alloc_new (w.alloc (.cells csu 77)) (.cells csc 77)
      simpa using this
    · exact Nat.le_refl _
    · omega
    · omega
    · exact ((((Below.refl _ _).alloc (Nat.le_refl _) _).alloc (by simp) _).alloc (by simp; omega) _).drew
  · go_wp2_with fail
    go_ret
    refine ⟨w.heap.size + 2, _, _, rfl, newTwo w ((w.alloc (.cells csc 77)).alloc (.cells csu 77)).drew B (w.heap.size + 1) w.heap.size _ _ lu lc gu gc csu csc hu hc hgu hgc hne h1 h2 hB hsu hfu hsc hfc ?_ ?_ ?_ ?_ ?_ ?_ ?_, rfl, rfl, rfl, rfl, rfl, rfl, rfl, rfl, rfl, rfl, ?_⟩
    · exact (((Below.refl _ _).alloc (Nat.le_refl _) _).alloc (by simp) _).drew
    · simp
    · show ((w.alloc (.cells csc 77)).alloc (.cells csu 77)).heap[w.heap.size + 1]? = _
      have := heap_alloc_new (w.alloc (.cells csc 77)) (.cells csu 77)
      simpa using this
    · show ((w.alloc (.cells csc 77)).alloc (.cells csu 77)).heap[w.heap.size]? = _
      rw [Below.heap_alloc _ _ _ (by simp)]; exact heap_alloc_new w _
    · omega
    · exact Nat.le_refl _
    · omega
    · exact ((((Below.refl _ _).alloc (Nat.le_refl _) _).alloc (by simp) _).alloc (by simp; omega) _).drew
end Go.Proofs.Qxb6628726a
