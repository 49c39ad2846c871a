/-
  FnAppendKeptShiftFree (seat b6628726a): the law function answers true.
-/
import Derived.Test.Qxb6628726aLawB
namespace Go.Proofs.Qxb6628726a
open Go.RowKit
set_option linter.unusedVariables false
attribute [local go_sem ↓] Go.wp_at_zero Go.wp_at_succ

theorem Own.shape {w : World} {B : Nat} {v : Value} {l : List Int} (h : Own w B v l) (hn : 0 < l.length) : ∃ g cap, v = .slice (some ⟨g, 0, none⟩) l.length cap ∧ l.length ≤ cap := by
  rcases h.2 with ⟨_, h0⟩ | ⟨g, cap, cur, e, _, _, hc, _⟩
  · omega
  · exact ⟨g, cap, e, hc⟩
theorem Rd.tail {w : World} {g cap : Nat} {y X : List Int} (h : Rd w (.slice (some ⟨g, 0, none⟩) (y ++ X).length cap) (y ++ X).length 1 (bf (y ++ X))) (c : Nat) (hX : 0 < X.length) : Rd w (.slice (some ⟨g, y.length, none⟩) X.length c) X.length 1 (bf X) := by
  obtain ⟨a, cap', e, k⟩ := h
  obtain ⟨b, off, e2, hb, hc⟩ := k (by simp only [List.length_append]; omega)
  rw [e2] at e
  injection e with e3 _ _
  injection e3 with e4
  injection e4 with e5 e6 _
  subst e5 e6
  refine ⟨_, c, rfl, fun _ => ⟨g, y.length, rfl, hb, fun i hi => ?_⟩⟩
  have := hc (y.length + i) (by simp only [List.length_append]; omega)
  rw [Nat.zero_add] at this
  rw [this]
  simp [List.getElem?_append_right]
theorem getD_app (y X : List Int) (i : Nat) (h : i < y.length) : (y ++ X).getD i 0 = y.getD i 0 := by simp [List.getElem?_append_left h]

set_option maxRecDepth 100000 in
set_option maxHeartbeats 4000000 in
theorem shiftFree_any (v0 v1 v2 v3 : Value) (uw cw sr : List (Int × Int)) (l : List Int) (t d : Int) (w : World) (h0 : Rd2 w v0 uw) (h1 : Rd2 w v1 cw) (h2 : Rd2 w v2 sr) (h3 : Rd w v3 l.length 1 (bf l))
    (l0 : uw.length ≤ 9223372036854775807) (l1 : cw.length ≤ 9223372036854775807) (l2 : sr.length ≤ 9223372036854775807) (l3 : l.length ≤ 9223372036854775807) (hd : -9223372036854775808 ≤ d ∧ d ≤ 9223372036854775807) :
    Calls Try.prog 4 #[v0, v1, v2, v3, .int .i64 t, .int .i64 d] w fun e w' => e = .returned (.bool true) ∧ Below w.heap.size w w' := by
  obtain ⟨a0, c0, rfl, k0⟩ := id h0
  obtain ⟨a1, c1, rfl, k1⟩ := id h1
  obtain ⟨a2, c2, rfl, k2⟩ := id h2
  obtain ⟨a3, c3, rfl, k3⟩ := id h3
  clear k0 k1 k2 k3
  go_enter Try.func4, Try.ntmps4
  go_wp2_with fail
  refine (zz13_any _ _ _ _ _ _ _ _ _ _ _ _ _ _ _ l0 l1 l2 l3).mono ?_
  rintro e wz ⟨⟨b, rfl⟩, rfl⟩
  cases b with
  | false => go_wp2_with fail; go_ret; exact ⟨rfl, Below.refl _ _⟩
  | true =>
    by_cases m3 : l.length ≤ 1048576
    case neg => go_wp2_with fail; go_ret; exact ⟨rfl, Below.refl _ _⟩
    by_cases m0 : uw.length ≤ 4096
    case neg => go_wp2_with fail; go_ret; exact ⟨rfl, Below.refl _ _⟩
    by_cases m1 : cw.length ≤ 4096
    case neg => go_wp2_with fail; go_ret; exact ⟨rfl, Below.refl _ _⟩
    by_cases m2 : sr.length ≤ 65536
    case neg => go_wp2_with fail; go_ret; exact ⟨rfl, Below.refl _ _⟩
    by_cases m5 : l.length + 16 * uw.length + 16 * cw.length + 16 * sr.length ≤ 1048576
    case neg => go_wp2_with fail; go_ret; exact ⟨rfl, Below.refl _ _⟩
    go_wp2_with fail
    refine (premise_any _ _ _ uw cw sr t wz h0 h1 h2 (by omega) (by omega) (by omega)).mono ?_
    rintro e wp ⟨hp, rfl⟩
    rcases hp with ⟨rfl, hp⟩ | rfl
    case inr => go_wp2_with fail; go_ret; exact ⟨rfl, Below.refl _ _⟩
    have ht0 := hp.t0
    have ht1 := hp.t1
    by_cases hd0 : 0 ≤ d
    case neg => go_wp2_with fail; go_ret; exact ⟨rfl, Below.refl _ _⟩
    by_cases hd1 : d ≤ 4611686018427387904 - t
    case neg => go_wp2_with fail; go_ret; exact ⟨rfl, Below.refl _ _⟩
    go_upto_region 11 with fail
    have aU0 := hp.argsU (d := ((0 : Nat) : Int)) (by omega) (by omega) (by omega) (by omega)
    have aC0 := hp.argsC (d := ((0 : Nat) : Int)) (by omega) (by omega) (by omega) (by omega)
    have aUd := hp.argsU (d := d) (by omega) (by omega) hd0 (by omega)
    have aCd := hp.argsC (d := d) (by omega) (by omega) hd0 (by omega)
    obtain ⟨tn, htn⟩ : ∃ tn : Nat, t = tn := ⟨t.toNat, by omega⟩
    obtain ⟨dn, hdn⟩ : ∃ dn : Nat, d = dn := ⟨d.toNat, by omega⟩
    subst htn hdn
    have hmo := hide hp.mo
    have hs0 := hide hp.s0
    have htd : tn + dn ≤ 4611686018427387904 := by omega
    clear ht0 ht1 hd0 hd1 hd hp l0 l1 l2 l3 m5
    go_wp2_with fail
    refine (clone_any _ l wp h3 (by omega)).mono ?_
    rintro e w1 ⟨bw, rfl, ob, q1⟩
    go_wp2_with fail
    refine (clone_any _ l w1 (h3.later q1) (by omega)).mono ?_
    rintro e w2 ⟨b1, rfl, o1, q2⟩
    have q2' := q1.trans (q2.mono q1.size)
    go_wp2_with fail
    refine (clone_any _ l w2 (h3.later q2') (by omega)).mono ?_
    rintro e w3 ⟨b2, rfl, o2, q3⟩
    have q3' := q2'.trans (q3.mono q2'.size)
    go_wp2_with fail
    refine (any_any _ _ _ uw cw sr tn w3 (h0.later q3') (h1.later q3') (h2.later q3') (by omega) (by omega) (by omega) (by omega) hs0.out).mono ?_
    rintro e wa ⟨hany, rfl⟩
    obtain ⟨b, rfl, hb⟩ : ∃ b : Bool, e = .returned (.bool b) ∧ (b = true ↔ AnyK uw cw sr tn) := by
      rcases hany with ⟨rfl, h⟩ | ⟨rfl, h⟩
      · exact ⟨true, rfl, by simp [h]⟩
      · exact ⟨false, rfl, by simp [h]⟩
    have HB := hide hb
    clear hany hb
    go_wp2_with fail
    refine (build_any _ _ _ uw cw sr 0 wa (h0.later q3') (h1.later q3') (h2.later q3') (by omega) (by omega) (by omega) (by omega) (fun i hi => by have := hs0.out i hi; omega) hmo.out).mono ?_
    rintro e w4 ⟨L1, s1, t1, rfl, T1, e1, e2, e3, e4, e5, e6, q4⟩
    have B1 : Built s1 uw false Prod.snd (0 : Nat) sr := ⟨e1, e3, e5⟩
    have C1 : Built t1 cw true (fun _ => 1) (0 : Nat) sr := ⟨e2, e4, e6⟩
    have sp1 := T1.span
    clear e1 e2 e3 e4 e5 e6
    have q4' := q3'.trans (q4.mono q3'.size)
    go_wp2_with fail
    refine (build_any _ _ _ uw cw sr dn w4 (h0.later q4') (h1.later q4') (h2.later q4') (by omega) (by omega) (by omega) (by omega) (fun i hi => by have := hs0.out i hi; omega) hmo.out).mono ?_
    rintro e w5 ⟨L2, s2, t2, rfl, T2, e1, e2, e3, e4, e5, e6, q5⟩
    have B2 : Built s2 uw false Prod.snd dn sr := ⟨e1, e3, e5⟩
    have C2 : Built t2 cw true (fun _ => 1) dn sr := ⟨e2, e4, e6⟩
    have sp2 := T2.span
    clear e1 e2 e3 e4 e5 e6
    have q5' := q4'.trans (q5.mono q4'.size)
    go_wp2_with fail
    refine (zzat_any tn (by omega) _).mono ?_
    rintro e w6 ⟨rfl, q6⟩
    have i0 := ob.isIn
    have i1 := o1.isIn
    have i2 := o2.isIn
    have n1 := q2.size
    have n2 := q3.size
    have n3 := q4.size
    have n4 := q5.size
    have n5 := q6.size
    have T1' := (T1.below q5).below q6
    have T2' := T2.below q6
    have ob' := ((((ob.below q2).below q3).below q4).below q5).below q6
    have o1' := (((o1.below q3).below q4).below q5).below q6
    have o2' := ((o2.below q4).below q5).below q6
    clear T1 T2 ob o1 o2
    go_wp2_with fail
    refine (keptBuilt L1 _ w1.heap.size s1 t1 uw cw sr 0 tn b1 l b w6 T1' B1 C1 aU0 aC0 o1' (by omega) (fun k hk => by have := i1 k hk; omega) (by omega) HB.out).mono ?_
    rintro e w7 ⟨g1, rfl, og1, q7, fr7, ly7⟩
    have r7 := first_leaves (by omega) n2 n3 fr7 q7.size sp1 i1 i2 o2' T2'
    have ob7 := ob'.at_below (fun k hk => (i0 k hk).2) q7
    obtain ⟨o27, T27⟩ := r7
    clear T1' T2' o1' o2' ob'
    have HQ7 := hide (show Below wp.heap.size wp w7 from (q5'.trans (q6.mono q5'.size)).trans (q7.mono q1.size))
    have HLy := hide (show g1.ownBlock = b1.ownBlock ∨ ∃ g, g1.ownBlock = some g ∧ w5.heap.size ≤ g from by
      rcases ly7 with h | ⟨g, h, h'⟩
      · exact .inl h
      · exact .inr ⟨g, h, by omega⟩)
    have n0 := q1.size
    clear ly7 fr7 q1 q2 q3 q4 q5 q6 q7 q2' q3' q4' q5' sp1
    go_wp2_with fail
    refine (zzat_any (tn + dn) (by omega) _).mono ?_
    rintro e w8 ⟨rfl, q8⟩
    go_wp2_with fail
    refine (keptBuilt L2 _ w2.heap.size s2 t2 uw cw sr dn tn b2 l b w8 (T27.below q8) B2 C2 aUd aCd (o27.below q8) (by omega) (fun k hk => by have := i2 k hk; omega) (by omega) HB.out).mono ?_
    rintro e w9 ⟨g2, rfl, og2, q9, fr9, ly9⟩
    have og1' := second_leaves n2 n3 n4 fr9 sp2 i1 i2 HLy.out (og1.below q8)
    have ob9 := (ob7.below q8).at_below (fun k hk => by have := i0 k hk; omega) q9
    have HQ9 := hide (show Below wp.heap.size wp w9 from (HQ7.out.trans (q8.mono HQ7.out.size)).trans (q9.mono (by omega)))
    have rb := ob9.rd
    have r1 := og1'.rd
    have r2 := og2.rd
    clear ly9 fr9 sp2 og1 ob7 ob9 o27 T27 q8 q9 HLy h0 h1 h2 h3 i0 i1 i2 n0 n1 n2 n3 n4 n5 HQ7 B1 B2 C1 C2
    have z1 := keptP_len l uw cw sr (0 : Nat) tn hmo.out (by omega)
    have z2 := keptP_len l uw cw sr dn tn hmo.out (by omega)
    cases b with
    | false =>
      have hno : ¬ AnyK uw cw sr tn := fun h => by have := HB.out.2 h; cases this
      rw [keptP_no l aU0 aC0 hno] at r1
      rw [keptP_no l aUd aCd hno] at r2
      go_wp2_with fail
      refine (equal_bytes _ _ l _ r1 rb (by omega)).mono ?_
      rintro e wA ⟨rfl, qA⟩
      go_wp2_with fail
      refine (equal_bytes _ _ l _ (r2.later qA) (rb.later qA) (by omega)).mono ?_
      rintro e wB ⟨rfl, qB⟩
      go_wp2_with fail
      go_ret
      exact ⟨rfl, (HQ9.out.trans (qA.mono HQ9.out.size)).trans (qB.mono (Nat.le_trans HQ9.out.size qA.size))⟩
    | true =>
      have hyes : AnyK uw cw sr tn := HB.out.1 rfl
      rw [keptP_yes l aU0 aC0 hyes] at r1 z1 og1'
      rw [keptP_yes l aUd aCd hyes] at r2 z2 og2
      rw [show ((tn : Int) + (0 : Nat)).toNat = tn by omega] at r1 z1 og1'
      rw [show ((tn : Int) + dn).toNat = tn + dn by omega] at r2 z2 og2
      have hpos := tailP_pos uw cw sr tn
      generalize tailP uw cw sr tn = X at r1 r2 z1 z2 hpos og1' og2
      clear hyes HB aU0 aC0 aUd aCd hmo hs0
      go_wp2_with fail
      refine (header_any _ l tn (by omega) _ rb (by omega)).mono ?_
      rintro e wA ⟨p1, rfl, op1, qA⟩
      go_wp2_with fail
      refine (header_any _ l (tn + dn) (by omega) _ (rb.later qA) (by omega)).mono ?_
      rintro e wB ⟨p2, rfl, op2, qB⟩
      have qB' := qA.trans (qB.mono qA.size)
      have rp1 := (op1.below qB).rd
      have rp2 := op2.rd
      have HQB := hide (show Below wp.heap.size wp wB from HQ9.out.trans (qB'.mono HQ9.out.size))
      have r1B := r1.later qB'
      have r2B := r2.later qB'
      have sh1 := og1'.shape
      have sh2 := og2.shape
      clear og1' og2
      generalize hh1 : l ++ hdr tn = y1 at r1B rp1 z1 sh1
      generalize hh2 : l ++ hdr (tn + dn) = y2 at r2B rp2 z2 sh2
      clear hh1 hh2 op1 op2 qA qB qB' rb r1 r2 HQ9
      simp only [List.length_append] at z1 z2
      go_wp2_with fail
      refine (prefix_bytes _ _ (y1 ++ X) y1 _ r1B rp1 (by simp only [List.length_append]; omega) (by simp) (fun i hi => getD_app _ _ i hi)).mono ?_
      rintro e wC ⟨rfl, qC⟩
      go_wp2_with fail
      refine (prefix_bytes _ _ (y2 ++ X) y2 _ (r2B.later qC) (rp2.later qC) (by simp only [List.length_append]; omega) (by simp) (fun i hi => getD_app _ _ i hi)).mono ?_
      rintro e wD ⟨rfl, qD⟩
      have qD' := qC.trans (qD.mono qC.size)
      have HQD := hide (show Below wp.heap.size wp wD from HQB.out.trans (qD'.mono HQB.out.size))
      have s1 := r1B.later qD'
      have s2 := r2B.later qD'
      obtain ⟨pa1, pc1, rfl, _⟩ := rp1
      obtain ⟨pa2, pc2, rfl, _⟩ := rp2
      clear qC qD qD' r1B r2B HQB
      obtain ⟨ga, gc, rfl, hgc⟩ := sh1 (by simp only [List.length_append]; omega)
      obtain ⟨gb, gd, rfl, hgd⟩ := sh2 (by simp only [List.length_append]; omega)
      rw [List.length_append] at hgc hgd
      have HE := hide (fun (wx : World) (hx : Below wD.heap.size wD wx) => equal_bytes _ _ X wx ((s1.tail (gc - y1.length) hpos).later hx) ((s2.tail (gd - y2.length) hpos).later hx) (by omega))
      clear s1 s2
      go_upto_region 27 with fail
      go_region_with (go_at_call 12; refine (HE.out _ ?_).mono ?_; (exact (Below.refl _ _).drew); rintro e wE ⟨rfl, qE⟩)
      all_goals (go_wp2_with fail; go_ret; exact ⟨rfl, HQD.out.trans (((Below.refl _ _).drew.trans qE).mono HQD.out.size)⟩)
end Go.Proofs.Qxb6628726a
