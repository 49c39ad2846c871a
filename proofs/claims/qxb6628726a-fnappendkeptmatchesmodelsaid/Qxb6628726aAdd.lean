/-
  THE WALK of windowLog.add (seat b6628726a).
-/
import Derived.Test.Qxb6628726aMem
namespace Go.Proofs.Qxb6628726a
open Go.RowKit
set_option linter.unusedVariables false
attribute [local go_sem ↓] Go.wp_at_zero Go.wp_at_succ

theorem info75 : (Try.prog.info? 75).map (fun i => (i.zero, i.size, i.bytes)) = some (some (.agg #[.int .i64 0, .int .i64 0]), 2, 16) := by kernel_rfl

def lastAt (tk : List (Int × Int)) : Int × Int := tk.getD (tk.length - 1) (0, 0)
def sameAt (tk : List (Int × Int)) (a : Int) : Bool := decide (0 < tk.length) && decide ((lastAt tk).1 = a)
def tkAdd (tk : List (Int × Int)) (a u : Int) : List (Int × Int) := if sameAt tk a then tk.set (tk.length - 1) ((lastAt tk).1, wrap64 ((lastAt tk).2 + u)) else tk ++ [(a, u)]
def cnAdd (cn : List (Int × Int)) (u : Int) : List (Int × Int) := cn.map fun p => (p.1, wrap64 (p.2 + u))
def baseOf (tk : List (Int × Int)) (base N : Nat) : Nat := if tk.length = 0 then N else base

def cnK (cn : List (Int × Int)) (u : Int) (k : Nat) : List (Int × Int) := cnAdd (cn.take k) u ++ cn.drop k
theorem cnK_len (cn : List (Int × Int)) (u : Int) (k : Nat) : (cnK cn u k).length = cn.length := by simp [cnK, cnAdd]; omega
theorem cnK_all (cn : List (Int × Int)) (u : Int) : cnK cn u cn.length = cnAdd cn u := by simp [cnK]
theorem cnK_set (cn : List (Int × Int)) (u : Int) (k : Nat) (h : k < cn.length) : (cnK cn u k).set k (((cnK cn u k).getD k (0, 0)).1, wrap64 (((cnK cn u k).getD k (0, 0)).2 + u)) = cnK cn u (k + 1) := by
  have e : (cnK cn u k).getD k (0, 0) = cn[k] := by
    simp [cnK, cnAdd, List.getElem?_append]
    rw [if_neg (by omega), show k - min k cn.length = 0 by omega]
    simp [h]
  rw [e]
  apply List.ext_getElem?
  intro i
  rw [List.getElem?_set]
  simp only [cnK, cnAdd, List.getElem?_append, List.length_map, List.length_take, List.getElem?_map, List.getElem?_take, List.getElem?_drop, List.length_append, List.length_drop]
  by_cases c : k = i
  · subst c
    rw [if_pos rfl, if_pos (by omega), if_pos (by omega), if_pos (by omega)]
    simp [h]
  · rw [if_neg c]
    by_cases d : i < k
    · rw [if_pos (show i < min k cn.length by omega), if_pos d, if_pos (show i < min (k + 1) cn.length by omega), if_pos (show i < k + 1 by omega)]
    · rw [if_neg (by omega), if_neg (by omega)]
      congr 1; omega

theorem slice_form {w : World} {B : Nat} {e : TypeId} {v : Value} {l : List (Int × Int)} (h : Row w B e v l) : ∃ a cap, v = .slice a l.length cap := by
  rcases h.2 with ⟨a, b⟩ | ⟨g, cap, _, a, _⟩
  · exact ⟨none, 0, by rw [b]; exact a⟩
  · exact ⟨_, cap, a⟩

set_option maxHeartbeats 1000000 in
theorem add_none (L o B : Nat) (wv tv cv : Value) (base : Nat) (lim : Bool) (tk cn : List (Int × Int)) (N : Nat) (u : Int) (w : World) (h : Log w B L o wv tv cv base lim [] tk cn) :
    Calls Try.prog 32 #[.pointer (some ⟨L, o, none⟩), TM N, .int .i64 u] w fun e w' => e = .returned (.tuple #[]) ∧ Below w.heap.size w w' := by
  obtain ⟨a, cap, rfl⟩ := slice_form h.rw
  have hL := h.c.lt
  have c0 := h.c.c0
  go_enter Try.func32, Try.ntmps32
  go_wp2_with fail
  exact bodyPost_ret (v := .tuple #[]) (by simp [results, Try.results32, go_sem]) rfl ⟨rfl, (Below.refl _ _).alloc (Nat.le_refl _) _⟩

set_option maxRecDepth 100000 in
set_option maxHeartbeats 2000000 in
theorem add_some (L o B : Nat) (wv tv cv : Value) (base : Nat) (lim : Bool) (wins tk cn : List (Int × Int)) (N : Nat) (u : Int) (w : World) (h : Log w B L o wv tv cv base lim wins tk cn)
    (hw : 0 < wins.length) (l0 : wins.length ≤ 1000000) (l1 : tk.length ≤ 1000000) (l2 : cn.length ≤ 1000000) (hB : B ≤ w.heap.size) (hN : N ≤ 4611686018427387904) (hb : baseOf tk base N ≤ N) :
    Calls Try.prog 32 #[.pointer (some ⟨L, o, none⟩), TM N, .int .i64 u] w fun e w' => e = .returned (.tuple #[]) ∧ ∃ tv', Log w' B L o wv tv' cv (baseOf tk base N) lim wins (tkAdd tk ((N - baseOf tk base N : Nat) : Int) u) (cnAdd cn u) ∧ LogFr w w' L o tv tv' cv := by
  obtain ⟨i0, hi0, hz0, hz1, hz2⟩ := info_parts info75
  obtain ⟨wa, wcap, rfl⟩ := slice_form h.rw
  obtain ⟨ta, tcap, rfl⟩ := slice_form h.rt
  obtain ⟨ca, ccap, rfl⟩ := slice_form h.rc
  have hL := h.c.lt
  have c0 := h.c.c0
  have hwz : ((wins.length : Int) == 0) = false := by rw [beq_eq_false_iff_ne]; omega
  go_enter Try.func32, Try.ntmps32
  go_upto_region 2 with fail
  obtain ⟨W0, hW0⟩ : ∃ W0, W0 = w.alloc (Obj.cells #[Value.int IntKind.u64 ↑(ns N), Value.int IntKind.i64 ↑(sc N), Value.pointer none] 36) := ⟨_, rfl⟩
  have hbl0 : Below w.heap.size w W0 := by rw [hW0]; exact (Below.refl _ _).alloc (Nat.le_refl _) _
  have b0 : W0.cell? ⟨w.heap.size, 0, none⟩ = some (.int .u64 (ns N)) := by rw [hW0]; simp
  have b1 : W0.cell? ⟨w.heap.size, 1, none⟩ = some (.int .i64 (sc N)) := by rw [hW0]; simp
  have b2 : W0.cell? ⟨w.heap.size, 2, none⟩ = some (.pointer none) := by rw [hW0]; simp
  have log0 := h.below hbl0
  have fr0 : LogFr w W0 L o _ _ _ := (LogFr.refl w L o (.slice ta tk.length tcap) (.slice ca cn.length ccap)).below hL hbl0
  have hne0 : ¬ L = w.heap.size := by omega
  have hne1 : ¬ w.heap.size = L := by omega
  rw [← hW0]
  clear hW0 h c0
  have c4 := log0.c.c4
  go_upto_if 20 with fail
  go_cut [] (fun wx => Log wx B L o (.slice wa wins.length wcap) (.slice ta tk.length tcap) (.slice ca cn.length ccap) (baseOf tk base N) lim wins tk cn ∧ LogFr w wx L o (.slice ta tk.length tcap) (.slice ta tk.length tcap) (.slice ca cn.length ccap) ∧ wx.cell? ⟨w.heap.size, 0, none⟩ = some (.int .u64 (ns N)) ∧ wx.cell? ⟨w.heap.size, 1, none⟩ = some (.int .i64 (sc N)) ∧ wx.cell? ⟨w.heap.size, 2, none⟩ = some (.pointer none))
  case first =>
    by_cases hz : tk.length = 0
    · have hbo := hide (show baseOf tk base N = N by simp [baseOf, hz])
      have hz' : ((tk.length : Int) == 0) = true := by rw [beq_iff_eq]; omega
      have HZ := hide hz
      clear hz
      have c1 := log0.c.c1
      have c2 := log0.c.c2
      have c3 := log0.c.c3
      have fz1 := log0.c.fz (o + 1)
      have fz2 := log0.c.fz (o + 2)
      have fz3 := log0.c.fz (o + 3)
      go_wp2_with fail
      go_meet
      case rel =>
        rw [hbo.out]
        refine ⟨log0.setBase N, fr0.setBase _ _ _, ?_, ?_, ?_⟩
        · rw [set_off (ne_blk (Ne.symm hne1)), set_off (ne_blk (Ne.symm hne1)), set_off (ne_blk (Ne.symm hne1))]; exact b0
        · rw [set_off (ne_blk (Ne.symm hne1)), set_off (ne_blk (Ne.symm hne1)), set_off (ne_blk (Ne.symm hne1))]; exact b1
        · rw [set_off (ne_blk (Ne.symm hne1)), set_off (ne_blk (Ne.symm hne1)), set_off (ne_blk (Ne.symm hne1))]; exact b2
    · have hbo := hide (show baseOf tk base N = base by simp [baseOf, hz])
      have hz' : ((tk.length : Int) == 0) = false := by rw [beq_eq_false_iff_ne]; omega
      go_wp2_with fail
      go_meet
      case rel => rw [hbo.out]; exact ⟨log0, fr0, b0, b1, b2⟩
  case rest =>
    obtain ⟨log1, fr1, q0, q1, q2⟩ := hcut
    clear log0 fr0 b0 b1 b2 c4 hbl0
    generalize hbs : baseOf tk base N = bs at *
    have HBS := hide hbs
    clear hbs
    have HS := hide (fun w1 => sub_any N bs hb hN w1)
    have d1 := log1.c.c1
    have d2 := log1.c.c2
    have d3 := log1.c.c3
    go_upto_region 4 with fail
    go_cut [6] (fun s wx => s = .int .i64 ((N - bs : Nat) : Int) ∧ Below wc.heap.size wc wx)
    case first =>
      go_region_held3 (fun w' => Below wc.heap.size wc w' ∧ w'.cell? ⟨w.heap.size, 0, none⟩ = some (.int .u64 (ns N)) ∧ w'.cell? ⟨w.heap.size, 1, none⟩ = some (.int .i64 (sc N)) ∧ w'.cell? ⟨w.heap.size, 2, none⟩ = some (.pointer none) ∧ w'.cell? ⟨L, o + 1, none⟩ = some (.int .u64 (ns bs)) ∧ w'.cell? ⟨L, o + 2, none⟩ = some (.int .i64 (sc bs)) ∧ w'.cell? ⟨L, o + 3, none⟩ = some (.pointer none))
        (first | (exact ⟨(Below.refl _ _).drew, by go_keep⟩) | (go_split_ands; refine ⟨?_, ?_, ?_, ?_, ?_, ?_, ?_⟩ <;> first | exact cell_later hb (by assumption) | exact Below.trans (by assumption) (hb.mono (Below.size (by assumption)))))
        (first | (go_at_call 38; refine (HS.out _).mono ?_; rintro e w1 ⟨rfl, hb⟩))
      go_wp2_with fail
      go_meet
      rename_i hHeld
      exact ⟨rfl, hHeld.1⟩
    case rest =>
      obtain ⟨rfl, hbd⟩ := hcut
      have log2 := log1.below hbd
      have fr2 := fr1.below log1.c.lt hbd
      clear log1 fr1 q0 q1 q2 d1 d2 d3 hbd
      have hBw : B ≤ wc.heap.size := Nat.le_trans hB fr2.size
      obtain ⟨at_, hat⟩ : ∃ a : Int, ((N - bs : Nat) : Int) = a := ⟨_, rfl⟩
      rw [hat]
      have HAt := hide hat
      clear hat
      have c4 := log2.c.c4
      go_upto_region 6 with fail
      go_cut [50] (fun b wx => b = .bool (sameAt tk at_) ∧ wc = wx)
      case first =>
        by_cases hz : 0 < tk.length
        · obtain ⟨g, cap, hv, hgB, hg, hcells, hfz⟩ := Row.at log2.rt hz
          simp only [Value.slice.injEq] at hv
          obtain ⟨rfl, -, rfl⟩ := hv
          have hx := (hcells (tk.length - 1) (by omega)).1
          have hsm := hide (show sameAt tk at_ = (((lastAt tk).1 : Int) == at_) by rw [Bool.eq_iff_iff]; simp only [sameAt, Bool.and_eq_true, decide_eq_true_iff, beq_iff_eq]; exact ⟨fun h => h.2, fun h => ⟨hz, h⟩⟩)
          rw [show tk.getD (tk.length - 1) (0, 0) = lastAt tk from rfl] at hx
          generalize lastAt tk = la at *
          obtain ⟨la1, la2⟩ := la
          simp only at hx
          obtain ⟨m, hm⟩ : ∃ m, tk.length = m + 1 := ⟨tk.length - 1, by omega⟩
          have hi1 : (0 : Int) ≤ (tk.length : Int) - 1 := by omega
          have hi2 : (tk.length : Int) - 1 < (tk.length : Int) := by omega
          have hi3 : ((tk.length : Int) - 1).toNat = tk.length - 1 := by omega
          clear hcells hfz hm
          go_wp2_with fail
          go_meet
          case rel => exact ⟨by rw [hsm.out], rfl⟩
        · have hsm := hide (show sameAt tk at_ = false by simp only [sameAt, Bool.and_eq_false_iff, decide_eq_false_iff_not]; exact .inl hz)
          go_wp2_with fail
          go_meet
          case rel => exact ⟨by rw [hsm.out], rfl⟩
      case rest =>
        obtain ⟨rfl, rfl⟩ := hcut
        go_upto_if 50 with fail
        go_cut [] (fun wx => ∃ tv', Log wx B L o (.slice wa wins.length wcap) tv' (.slice ca cn.length ccap) bs lim wins (tkAdd tk at_ u) cn ∧ LogFr w wx L o (.slice ta tk.length tcap) tv' (.slice ca cn.length ccap))
        case first =>
          cases hs : sameAt tk at_
          · have hta := hide (show tkAdd tk at_ u = tk ++ [(at_, u)] by simp [tkAdd, hs])
            clear hs
            go_wp2_with (at_builtin; refine wpList_append_lies _ (by rfl) _ _ 56 (by rfl) B 75 i0 (.agg #[.int .i64 0, .int .i64 0]) 2 16 Try.underlying56 hi0 hz0 hz1 hz2 rfl (by omega) (.slice ta tk.length tcap) tk.length (flat tk) (by rfl) (World.ownsRow.alloc log2.rt _) ⟨wc.heap.size, 0, none⟩ 1 1 [.int .i64 at_, .int .i64 u] (by rfl) (by rfl) ?c1 ?c2 (by omega) ?c3 ?c4 ?c5 (wc.heap.size + 1) ?c6 ?_)
            case c1 => exact World.news_of_block (cs := #[.int .i64 at_, .int .i64 u]) (t := 75) (fr := (0, 0)) (heap_alloc_new wc _)
            case c2 => intro x hx; simp at hx; rcases hx with rfl | rfl <;> rfl
            case c3 => unfold maxLen; omega
            case c4 => omega
            case c5 => simp; omega
            case c6 => simp
            intro g cap w1 hown1 hgrow hat hlt
            have led1 := Led.step (n := tk.length + 1) (cap := cap) hgrow hat
            have lc := log2.c.led led1 (Apart.ne log2.tL)
            have k4 := lc.c4
            have kf := lc.fz (o + 4)
            have hrow : Row w1 B 75 (.slice (some ⟨g, 0, none⟩) (tk.length + 1) cap) (tk ++ [(at_, u)]) := by
              unfold Row; rw [flat_app, List.length_append]; exact hown1
            clear hown1 hgrow hat
            go_wp2_with fail
            go_meet
            case rel => rw [hta.out]; exact ⟨_, log2.app led1 hrow, (fr2.led led1 log2.c.lt (Apart.ne log2.tL)).setL (o + 4) (by omega) (by omega) _⟩
          · have hta := hide (show tkAdd tk at_ u = tk.set (tk.length - 1) ((lastAt tk).1, wrap64 ((lastAt tk).2 + u)) by simp [tkAdd, hs])
            have hz : 0 < tk.length := by simp [sameAt] at hs; omega
            obtain ⟨g, cap, hv, hgB, hg, hcells, hfz⟩ := Row.at log2.rt hz
            simp only [Value.slice.injEq] at hv
            obtain ⟨rfl, -, rfl⟩ := hv
            have hx := (hcells (tk.length - 1) (by omega)).2
            have hfl := hide (flat_set2 tk (tk.length - 1) (wrap64 ((lastAt tk).2 + u)) (by omega))
            rw [show tk.getD (tk.length - 1) (0, 0) = lastAt tk from rfl] at hx hfl
            have hfz2 := hfz ((tk.length - 1) * 2 + 1)
            have hi1 : (0 : Int) ≤ (tk.length : Int) - 1 := by omega
            have hi2 : (tk.length : Int) - 1 < (tk.length : Int) := by omega
            have hi3 : ((tk.length : Int) - 1).toNat = tk.length - 1 := by omega
            have hgL : g ≠ L := fun e => Apart.ne log2.tL (by rw [e]; rfl)
            clear hs hcells hfz
            go_wp2_with fail
            go_meet
            case rel => rw [hta.out]; exact ⟨_, log2.setT _ _ rfl (by simp) hfl.out, fr2.setRow g _ _ hgL (.inr rfl)⟩
        case rest =>
          obtain ⟨tv', log3, fr3⟩ := hcut
          clear log2 fr2 c4
          generalize htk2 : tkAdd tk at_ u = tk2 at *
          have HTk := hide htk2
          clear htk2
          have c5 := log3.c.c5
          go_wp2_with fail
          go_loopg [8, 81] cn.length (fun g _ i wr => ∃ k : Nat, g = cn.length - k ∧ k ≤ cn.length ∧ i = .int .i64 k ∧ Log wr B L o (.slice wa wins.length wcap) tv' (.slice ca cn.length ccap) bs lim wins tk2 (cnK cn u k) ∧ LogFr w wr L o (.slice ta tk.length tcap) tv' (.slice ca cn.length ccap))
          case atStart => exact ⟨0, by omega, by omega, rfl, log3, fr3⟩
          case round =>
            obtain ⟨k, hgk, hk, rfl, logr, frr⟩ := hrel
            have HG := hide hgk
            clear hgk c5 log3 fr3
            by_cases hlt : k < cn.length
            · have hlen := cnK_len cn u k
              obtain ⟨g, cap, hv, hgB, hg, hcells, hfz⟩ := Row.at logr.rc (by omega)
              rw [hlen] at hv
              simp only [Value.slice.injEq] at hv
              obtain ⟨rfl, -, rfl⟩ := hv
              have hx := (hcells k (by omega)).2
              have hfz2 := hfz (k * 2 + 1)
              have hset := hide ((flat_set2 (cnK cn u k) k (wrap64 (((cnK cn u k).getD k (0, 0)).2 + u)) (by omega)).trans (congrArg flat (cnK_set cn u k hlt)))
              have hgL : g ≠ L := fun e => Apart.ne logr.cL (by rw [e]; rfl)
              generalize ((cnK cn u k).getD k (0, 0)).2 = x at hx hset
              have c5 := logr.c.c5
              have hl2 := hide hlen
              clear hcells hfz hlen
              go_wp2_with fail
              go_roundg (cn.length - (k + 1))
              case measure => rw [HG.out]; omega
              case rel => exact ⟨k + 1, rfl, by omega, by go_num, logr.setC _ _ hl2.out.symm (by rw [cnK_len, hl2.out]) hset.out, frr.setRow g _ _ hgL (.inl rfl)⟩
            · obtain rfl : k = cn.length := by omega
              go_wp2_with fail
              go_end0
              refine ⟨rfl, tv', ?_, frr⟩
              rw [cnK_all] at logr
              rw [HBS.out, HAt.out, HTk.out]
              exact logr
end Go.Proofs.Qxb6628726a
