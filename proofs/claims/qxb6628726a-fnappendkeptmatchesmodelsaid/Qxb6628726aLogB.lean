/-
  THE LOG IN MEMORY (seat b6628726a): instant, appendKept.
-/
import Derived.Test.Qxb6628726aLog
namespace Go.Proofs.Qxb6628726a
open Go.RowKit
set_option linter.unusedVariables false
attribute [local go_sem ↓] Go.wp_at_zero Go.wp_at_succ

set_option maxRecDepth 100000 in
set_option maxHeartbeats 1000000 in
theorem instant_any (L o B : Nat) (wv tv cv : Value) (base : Nat) (lim : Bool) (tk : List (Int × Int)) (j A : Nat) (w : World) (h : LogC w L o wv tv cv base lim) (ht : Row w B 75 tv tk) (hj : j < tk.length) (hA : (tk.getD j (0, 0)).1 = A) (hb : base + A ≤ 4611686018427387904) (l1 : tk.length ≤ 1000000) :
    Calls Try.prog 39 #[.pointer (some ⟨L, o, none⟩), .int .i64 j] w fun e w' => e = .returned (TM (base + A)) ∧ Below w.heap.size w w' := by
  have hL := h.lt
  obtain ⟨e0, e1, e2, e3, e4, e5, e6, e7, efz⟩ := h
  obtain ⟨g, cap, rfl, hB, hg, hcells, hfz⟩ := Row.at ht (by omega)
  have hx1 : w.cell? ⟨g, j * 2, none⟩ = some (.int .i64 A) := by rw [← hA]; exact (hcells j hj).1
  have i1 : (0 : Int) ≤ (j : Int) := by omega
  have i2 : (j : Int) < (tk.length : Int) := by omega
  have HA := hide (fun w => add_any base A hb w)
  clear e0 e5 e6 e7 efz hcells hfz hA
  go_enter Try.func39, Try.ntmps39
  go_upto_region 1 with fail
  go_region_with (go_at_call 28; refine (HA.out _).mono ?_; rintro e w1 ⟨rfl, hb1⟩; obtain ⟨hc1, hf1⟩ := bcell hb1; have hz1 : w.heap.size < w1.heap.size := (by have := hb1.size; simp at this; omega))
  all_goals
    go_wp2_with fail
    exact bodyPost_ret (v := TM (base + A)) (by simp [results, Try.results39, go_sem, hc1]) rfl ⟨rfl, ((((((Below.refl _ _).alloc (Nat.le_refl _) _).drew.trans (hb1.mono (by simp))).setCell (by simp) _).setCell (by simp) _).setCell (by simp) _)⟩

theorem LogC.led {w w' : World} {L o : Nat} {wv tv cv b v : Value} {base : Nat} {lim : Bool} (h : LogC w L o wv tv cv base lim) (hl : Led w w' b v) (hne : b.ownBlock ≠ some L) : LogC w' L o wv tv cv base lim :=
  h.later (fun j => World.cell?_of_block (hl.grown.block L h.lt (Ne.symm hne))) (fun j => World.frozen?_of_block (hl.grown.block L h.lt (Ne.symm hne)))
theorem Row.led {w w' : World} {B : Nat} {e : TypeId} {tv b v : Value} {l : List (Int × Int)} (h : Row w B e tv l) (hl : Led w w' b v) (hne : tv.ownBlock = none ∨ tv.ownBlock ≠ b.ownBlock) : Row w' B e tv l := World.ownsRow.kept h hl.grown hne

theorem Led.of_below {w w' : World} (h : Below w.heap.size w w') (v : Value) : Led w w' v v := ⟨⟨h.os, h.tape, h.output, h.size, fun k hk _ => h.block k hk⟩, .inl rfl⟩
theorem Own.below {w w' : World} {B : Nat} {v : Value} {l : List Int} (h : Own w B v l) (hb : Below w.heap.size w w') : Own w' B v l := by
  refine ⟨h.1, ?_⟩
  rcases h.2 with a | ⟨g, cap, cur, a, b, c, d⟩
  · exact .inl a
  · exact .inr ⟨g, cap, cur, a, b, (hb.block g (Array.getElem?_eq_some_iff.1 c).1).trans c, d⟩

def stepOf (inst : Nat → Nat) (T fr j : Nat) : Nat := if j = fr then T - inst j else inst j - inst (j - 1)
def body (inst : Nat → Nat) (val : Nat → Int) (T fr : Nat) : Nat → List Int
  | 0 => []
  | m + 1 => body inst val T fr m ++ uv 9 (stepOf inst T fr (fr + m)) ++ uv 9 (IntKind.u64.wrap (val (fr + m)))
theorem body_len (inst : Nat → Nat) (val : Nat → Int) (T fr : Nat) : ∀ m, (body inst val T fr m).length ≤ m * 20
  | 0 => by simp [body]
  | m + 1 => by
    have a := body_len inst val T fr m
    have b := uv_len 9 (stepOf inst T fr (fr + m))
    have c := uv_len 9 (IntKind.u64.wrap (val (fr + m)))
    simp [body]; omega

set_option maxRecDepth 100000 in
set_option maxHeartbeats 2000000 in
theorem kept_any (L o B : Nat) (wv tv cv : Value) (base : Nat) (lim : Bool) (tk : List (Int × Int)) (inst : Nat → Nat) (T fr : Nat) (b : Value) (l : List Int) (w : World)
    (h : LogC w L o wv tv cv base lim) (ht : Row w B 75 tv tk) (hown : Own w B b l) (hB : B ≤ w.heap.size) (hbl : b.ownBlock ≠ some L) (hbt : tv.ownBlock = none ∨ tv.ownBlock ≠ b.ownBlock)
    (hin : ∀ j, j < tk.length → (tk.getD j (0, 0)).1 = ((inst j - base : Nat) : Int) ∧ base ≤ inst j ∧ inst j ≤ T) (hmo : ∀ j, j + 1 < tk.length → inst j ≤ inst (j + 1)) (hT : T ≤ 4611686018427387904)
    (hfr : fr ≤ tk.length) (l1 : tk.length ≤ 1000000) (l2 : l.length ≤ 10000000) :
    Calls Try.prog 26 #[.pointer (some ⟨L, o, none⟩), b, .int .i64 fr, TM T] w fun e w' => ∃ v', e = .returned v' ∧ Own w' B v' (l ++ uv 9 (tk.length - fr : Nat) ++ body inst (fun j => (tk.getD j (0, 0)).2) T fr (tk.length - fr)) ∧ Led w w' b v' := by
  have hu0 := uv_len 9 ((tk.length - fr : Nat) : Int)
  obtain ⟨ta, tcap, rfl⟩ : ∃ a cap, tv = .slice a tk.length cap := by
    rcases ht.2 with ⟨a, b⟩ | ⟨g, cap, _, a, _⟩
    · exact ⟨none, 0, by rw [b]; exact a⟩
    · exact ⟨_, cap, a⟩
  have HIn := hide hin
  have HMo := hide hmo
  clear hin hmo
  have e4 := h.c4
  have hLw := h.lt
  go_enter Try.func26, Try.ntmps26
  go_wp2_with fail
  rw [show ((tk.length : Int) - (fr : Int)) = ((tk.length - fr : Nat) : Int) by omega]
  obtain ⟨W0, hW0⟩ : ∃ W0, W0 = w.alloc (Obj.cells #[Value.int IntKind.u64 ↑(ns T), Value.int IntKind.i64 ↑(sc T), Value.pointer none] 36) := ⟨_, rfl⟩
  have hsz0 : W0.heap.size = w.heap.size + 1 := by rw [hW0]; simp
  have b0 : W0.cell? ⟨w.heap.size, 0, none⟩ = some (.int .u64 (ns T)) := by rw [hW0]; simp
  have b1 : W0.cell? ⟨w.heap.size, 1, none⟩ = some (.int .i64 (sc T)) := by rw [hW0]; simp
  have b2 : W0.cell? ⟨w.heap.size, 2, none⟩ = some (.pointer none) := by rw [hW0]; simp
  have ld0 : Led w W0 b b := by rw [hW0]; exact (Led.refl w b).alloc _
  have own0 : Own W0 B b l := by rw [hW0]; exact hown.alloc _
  have log0 := h.led ld0 hbl
  have row0 := Row.led ht ld0 hbt
  have hbx : b.ownBlock ≠ some w.heap.size := fun e => by have := (hown.lt _ e).2; omega
  rw [← hW0]
  clear hW0 h ht e4
  refine (uv24_any B b l _ (by omega) (by omega) W0 own0 (by omega) (by omega)).mono ?_
  rintro e w1 ⟨v1, rfl, own1, led1⟩
  have e4 := (log0.led led1 hbl).c4
  go_wp2_with fail
  go_loopg [1, 9, 10] (tk.length - fr) (fun g v i _ wr => ∃ k, g = tk.length - k ∧ fr ≤ k ∧ k ≤ tk.length ∧ i = .int .i64 k ∧ Own wr B v (l ++ uv 9 ((tk.length - fr : Nat) : Int) ++ body inst (fun j => (tk.getD j (0, 0)).2) T fr (k - fr)) ∧ Led W0 wr b v)
  case atStart => exact ⟨fr, rfl, Nat.le_refl _, hfr, rfl, by rw [Nat.sub_self, body, List.append_nil]; exact own1, led1⟩
  case round =>
    obtain ⟨k, hgk, hk0, hk1, rfl, ownr, ledr⟩ := hrel
    have HG := hide hgk
    clear hgk e4 own1 led1
    have logr := log0.led ledr hbl
    have rowr := Row.led row0 ledr hbt
    have e4 := logr.c4
    by_cases hlt : k < tk.length
    · have hbl0 := hbl
      have hbl := body_len inst (fun j => (tk.getD j (0, 0)).2) T fr (k - fr)
      have hbs : w.heap.size < W0.heap.size := by omega
      have q0 : wr.cell? ⟨w.heap.size, 0, none⟩ = some (.int .u64 (ns T)) := (World.cell?_of_block (ledr.grown.block w.heap.size hbs (Ne.symm hbx))).trans b0
      have q1 : wr.cell? ⟨w.heap.size, 1, none⟩ = some (.int .i64 (sc T)) := (World.cell?_of_block (ledr.grown.block w.heap.size hbs (Ne.symm hbx))).trans b1
      have q2 : wr.cell? ⟨w.heap.size, 2, none⟩ = some (.pointer none) := (World.cell?_of_block (ledr.grown.block w.heap.size hbs (Ne.symm hbx))).trans b2
      obtain ⟨a1, a2, a3⟩ := HIn.out k hlt
      have HI := hide (fun w1 (hb : Below wr.heap.size wr w1) => instant_any L o B wv _ cv base lim tk k (inst k - base) w1 (logr.below hb) (Row.below rowr hb) hlt a1 (by omega) l1)
      rw [show base + (inst k - base) = inst k by omega] at HI
      have HS := hide (fun w1 => sub_any T (inst k) a3 hT w1)
      go_upto_region 5 with fail
      go_cut [10] (fun s wx => s = .int .i64 ((T - inst k : Nat) : Int) ∧ Below wr.heap.size wr wx)
      case first =>
        go_region_held3 (fun w' => Below wr.heap.size wr w' ∧ w'.cell? ⟨w.heap.size, 0, none⟩ = some (.int .u64 (ns T)) ∧ w'.cell? ⟨w.heap.size, 1, none⟩ = some (.int .i64 (sc T)) ∧ w'.cell? ⟨w.heap.size, 2, none⟩ = some (.pointer none))
          (first | (exact ⟨(Below.refl _ _).drew, by go_keep⟩) | (go_split_ands; refine ⟨?_, ?_, ?_, ?_⟩ <;> first | exact cell_later hb (by assumption) | exact Below.trans (by assumption) (hb.mono (Below.size (by assumption)))))
          (first | (go_at_call 39; refine (HI.out _ (by first | assumption | exact And.left (by assumption))).mono ?_; rintro e w1 ⟨rfl, hb⟩) | (go_at_call 38; refine (HS.out _).mono ?_; rintro e w1 ⟨rfl, hb⟩))
        go_wp2_with fail
        go_meet
        rename_i hHeld
        exact ⟨rfl, hHeld.1⟩
      case rest =>
        obtain ⟨rfl, hbc⟩ := hcut
        go_upto_if 38 with fail
        go_cut [10] (fun s wx => s = .int .i64 ((stepOf inst T fr k : Nat) : Int) ∧ Below wr.heap.size wr wx)
        case first =>
          by_cases hkf : fr < k
          · have hst := hide (show stepOf inst T fr k = inst k - inst (k - 1) by unfold stepOf; rw [if_neg (by omega)])
            obtain ⟨c1, c2, c3⟩ := HIn.out (k - 1) (by omega)
            have hmo := HMo.out (k - 1) (by omega)
            rw [show k - 1 + 1 = k by omega] at hmo
            have HI2 := hide (fun w1 (hb : Below wr.heap.size wr w1) => instant_any L o B wv _ cv base lim tk (k - 1) (inst (k - 1) - base) w1 (logr.below hb) (Row.below rowr hb) (by omega) c1 (by omega) l1)
            rw [show base + (inst (k - 1) - base) = inst (k - 1) by omega] at HI2
            go_wp2_with fail
            refine (HI.out _ hbc).mono ?_
            rintro e w2 ⟨rfl, hb2⟩
            have hb2' := hide (hbc.trans (hb2.mono hbc.size))
            go_wp2_with fail
            rw [show ((k : Int) - 1) = ((k - 1 : Nat) : Int) by omega]
            refine (HI2.out _ hb2'.out).mono ?_
            rintro e w3 ⟨rfl, hb3⟩
            have hb3' := hide (hb2'.out.trans (hb3.mono hb2'.out.size))
            go_wp2_with fail
            refine (sub_any (inst k) (inst (k - 1)) hmo (by omega) _).mono ?_
            rintro e w4 ⟨rfl, hb4⟩
            go_wp2_with fail
            go_meet
            case rel => exact ⟨by rw [hst.out], hb3'.out.trans (hb4.mono hb3'.out.size)⟩
          · have hst := hide (show stepOf inst T fr k = T - inst k by unfold stepOf; rw [if_pos (by omega)])
            go_wp2_with fail
            go_meet
            case rel => exact ⟨by rw [hst.out], hbc⟩
        case rest =>
          obtain ⟨rfl, hbd⟩ := hcut
          have lec := ledr.trans (Led.of_below hbd u1)
          have ownc := Own.below ownr hbd
          have hBc : B ≤ wc.heap.size := Nat.le_trans (by omega) lec.grown.size
          have hstl : stepOf inst T fr k ≤ 4611686018427387904 := by
            unfold stepOf; split <;> omega
          have hbody := hide (show body inst (fun j => (tk.getD j (0, 0)).2) T fr (k + 1 - fr) = body inst (fun j => (tk.getD j (0, 0)).2) T fr (k - fr) ++ uv 9 ((stepOf inst T fr k : Nat) : Int) ++ uv 9 (IntKind.u64.wrap (tk.getD k (0, 0)).2) by
            rw [show k + 1 - fr = (k - fr) + 1 by omega, body, show fr + (k - fr) = k by omega])
          have hbl2 := hide hbl
          generalize hQ : l ++ uv 9 ((tk.length - fr : Nat) : Int) ++ body inst (fun j => (tk.getD j (0, 0)).2) T fr (k - fr) = Q at ownc
          have hQl : Q.length ≤ 100000000 := by rw [← hQ, List.length_append, List.length_append]; omega
          have HQ := hide hQ
          clear hQ ownr hbc
          generalize stepOf inst T fr k = st at *
          go_wp2_with fail
          refine (uv24_any B u1 Q (st : Int) (by omega) (by omega) _ ownc hBc (by omega)).mono ?_
          rintro e w5 ⟨v5, rfl, own5, led5⟩
          have hu5 := uv_len 9 (st : Int)
          have lec5 := lec.trans led5
          have log5 := log0.led lec5 hbl0
          have row5 := Row.led row0 lec5 hbt
          have f4 := log5.c4
          obtain ⟨g, cap, hv, hgB, hg, hcells, hfz⟩ := Row.at row5 (by omega)
          simp only [Value.slice.injEq] at hv
          obtain ⟨rfl, -, rfl⟩ := hv
          have hx := (hcells k hlt).2
          have hbody2 := hide hbody.out
          generalize (tk.getD k (0, 0)).2 = y at hx hbody2
          clear hcells hfz e4 hbody
          go_wp2_with fail
          have hB5 : B ≤ w5.heap.size := Nat.le_trans hBc led5.grown.size
          refine (uv24_any B v5 _ (IntKind.u64.wrap y) (by rw [IntKind.wrap_u64]; omega) (by rw [IntKind.wrap_u64]; omega) _ own5 hB5 (by rw [List.length_append]; omega)).mono ?_
          rintro e w6 ⟨v6, rfl, own6, led6⟩
          go_wp2_with fail
          go_roundg (tk.length - (k + 1))
          case measure => rw [HG.out]; omega
          case rel =>
            refine ⟨k + 1, rfl, by omega, by omega, by go_num, ?_, lec5.trans led6⟩
            rw [hbody2.out, ← List.append_assoc, ← List.append_assoc, HQ.out]
            exact own6
    · obtain rfl : k = tk.length := by omega
      go_wp2_with fail
      go_ret
      exact ⟨_, rfl, ownr, ld0.trans ledr⟩
end Go.Proofs.Qxb6628726a
