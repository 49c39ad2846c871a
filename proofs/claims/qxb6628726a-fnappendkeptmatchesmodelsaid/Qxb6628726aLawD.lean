/-
  FnAppendKeptMatchesModel (seat b6628726a): the law function answers true.
-/
import Derived.Test.Qxb6628726aLawB
import Derived.Test.Qxb6628726aModC
namespace Go.Proofs.Qxb6628726a
open Go.RowKit
set_option linter.unusedVariables false
attribute [local go_sem ↓] Go.wp_at_zero Go.wp_at_succ

theorem model_any (vb v1 v2 v3 : Value) (uw cw sr : List (Int × Int)) (l : List Int) (t : Nat) (b : Bool) (w : World) (hb : Rd w vb l.length 1 (bf l)) (h1 : Rd2 w v1 uw) (h2 : Rd2 w v2 cw) (h3 : Rd2 w v3 sr)
    (l0 : uw.length ≤ 1000000) (l1 : cw.length ≤ 1000000) (l2 : sr.length ≤ 100000) (l3 : l.length ≤ 2000000) (hp : Prem uw cw sr t) (hany : b = true ↔ AnyK uw cw sr t) :
    Calls Try.prog 8 #[vb, v1, v2, v3, .int .i64 t] w fun e w' => ∃ v', e = .returned (.tuple #[v', .bool b]) ∧ Own w' w.heap.size v' (keptP l uw cw sr ((0 : Nat) : Int) t) ∧ Below w.heap.size w w' := by
  have ht := hp.t1
  have mf := mf_of hp hp.mo l2
  have aU := hp.argsU (d := ((0 : Nat) : Int)) l0 l2 (by omega) (by omega)
  have aC := hp.argsC (d := ((0 : Nat) : Int)) l1 l2 (by omega) (by omega)
  have ek := keptP_model (uw := uw) (cw := cw) (sr := sr) (t := t) l _ _ _ rfl rfl rfl
  refine (model_walk vb v1 v2 v3 uw cw sr l t _ _ _ _ w hb h1 h2 h3 l0 l1 l2 l3 (by omega) mf).mono ?_
  rintro e w' ⟨v', he, ho, hbel⟩
  refine ⟨v', ?_, by rw [ek]; exact ho, hbel⟩
  rw [he]
  have key : ((mg Prod.snd sr sr.length).length - (oldP (mg Prod.snd sr sr.length) uw false t).toNat) + ((mg Prod.snd sr sr.length).length - (oldP (mg (fun _ => 1) sr sr.length) cw true t).toNat) ≠ 0 ↔ AnyK uw cw sr t := by
    constructor
    · intro hne
      apply Classical.byContradiction
      intro hno
      have e1 := keptP_no ([] : List Int) aU aC hno
      have e2 := keptP_model (uw := uw) (cw := cw) (sr := sr) (t := t) ([] : List Int) _ _ _ rfl rfl rfl
      rw [if_neg hne] at e2
      rw [e1] at e2
      have := congrArg List.length e2
      simp [hdr] at this
    · intro hy he0
      have e1 := keptP_yes ([] : List Int) aU aC hy
      have e2 := keptP_model (uw := uw) (cw := cw) (sr := sr) (t := t) ([] : List Int) _ _ _ rfl rfl rfl
      rw [if_pos he0] at e2
      rw [e1] at e2
      have := congrArg List.length e2
      simp [hdr] at this
  have : decide (((mg Prod.snd sr sr.length).length - (oldP (mg Prod.snd sr sr.length) uw false t).toNat) + ((mg Prod.snd sr sr.length).length - (oldP (mg (fun _ => 1) sr sr.length) cw true t).toNat) ≠ 0) = b := by
    rw [← Bool.coe_iff_coe, decide_eq_true_iff, key, hany]
  rw [this]

set_option maxRecDepth 100000 in
set_option maxHeartbeats 4000000 in
theorem matches_any (v0 v1 v2 v3 : Value) (uw cw sr : List (Int × Int)) (l : List Int) (t : Int) (w : World) (h0 : Rd2 w v0 uw) (h1 : Rd2 w v1 cw) (h2 : Rd2 w v2 sr) (h3 : Rd w v3 l.length 1 (bf l))
    (l0 : uw.length ≤ 9223372036854775807) (l1 : cw.length ≤ 9223372036854775807) (l2 : sr.length ≤ 9223372036854775807) (l3 : l.length ≤ 9223372036854775807) :
    Calls Try.prog 3 #[v0, v1, v2, v3, .int .i64 t] w fun e w' => e = .returned (.bool true) ∧ Below w.heap.size w w' := by
  obtain ⟨a0, c0, rfl, k0⟩ := id h0
  obtain ⟨a1, c1, rfl, k1⟩ := id h1
  obtain ⟨a2, c2, rfl, k2⟩ := id h2
  obtain ⟨a3, c3, rfl, k3⟩ := id h3
  clear k0 k1 k2 k3
  go_enter Try.func3, Try.ntmps3
  go_wp2_with fail
  refine (zz5_any _ _ _ _ _ _ _ _ _ _ _ _ _ _ l0 l1 l2 l3).mono ?_
  rintro e wz ⟨⟨b, rfl⟩, rfl⟩
  cases b with
  | false => go_wp2_with fail; go_ret; exact ⟨rfl, Below.refl _ _⟩
  | true =>
    by_cases m3 : l.length ≤ 1048576
    case neg => go_wp2_with fail; go_ret; exact ⟨rfl, Below.refl _ _⟩
    by_cases m0 : uw.length ≤ 4096
    case neg => go_wp2_with fail; go_ret; exact ⟨rfl, Below.refl _ _⟩
    by_cases m1 : cw.length ≤ 4096
    case neg => go_wp2_with fail; go_ret; exact ⟨rfl, Below.refl _ _⟩
    by_cases m2 : sr.length ≤ 65536
    case neg => go_wp2_with fail; go_ret; exact ⟨rfl, Below.refl _ _⟩
    by_cases m5 : l.length + 16 * uw.length + 16 * cw.length + 16 * sr.length ≤ 1048576
    case neg => go_wp2_with fail; go_ret; exact ⟨rfl, Below.refl _ _⟩
    go_wp2_with fail
    refine (premise_any _ _ _ uw cw sr t wz h0 h1 h2 (by omega) (by omega) (by omega)).mono ?_
    rintro e wp ⟨hp, rfl⟩
    rcases hp with ⟨rfl, hp⟩ | rfl
    case inr => go_wp2_with fail; go_ret; exact ⟨rfl, Below.refl _ _⟩
    have ht0 := hp.t0
    have ht1 := hp.t1
    go_upto_region 9 with fail
    have aU0 := hp.argsU (d := ((0 : Nat) : Int)) (by omega) (by omega) (by omega) (by omega)
    have aC0 := hp.argsC (d := ((0 : Nat) : Int)) (by omega) (by omega) (by omega) (by omega)
    obtain ⟨tn, htn⟩ : ∃ tn : Nat, t = tn := ⟨t.toNat, by omega⟩
    subst htn
    have hmo := hide hp.mo
    have hs0 := hide hp.s0
    have hpp := hide hp
    have htd : tn ≤ 4611686018427387904 := by omega
    obtain ⟨b, hb⟩ : ∃ b : Bool, (b = true ↔ AnyK uw cw sr tn) := by
      by_cases c : AnyK uw cw sr tn
      · exact ⟨true, by simp [c]⟩
      · exact ⟨false, by simp [c]⟩
    have HB := hide hb
    clear hb ht0 ht1 hp l0 l1 l2 l3 m5
    go_wp2_with fail
    refine (clone_any _ l wp h3 (by omega)).mono ?_
    rintro e w1 ⟨bw, rfl, ob, q1⟩
    go_wp2_with fail
    refine (clone_any _ l w1 (h3.later q1) (by omega)).mono ?_
    rintro e w2 ⟨b1, rfl, o1, q2⟩
    have q2' := q1.trans (q2.mono q1.size)
    go_wp2_with fail
    refine (model_any _ _ _ _ uw cw sr l tn b w2 (ob.below q2).rd (h0.later q2') (h1.later q2') (h2.later q2') (by omega) (by omega) (by omega) (by omega) hpp.out HB.out).mono ?_
    rintro e w3 ⟨vw, rfl, ow, q3⟩
    have q3' := q2'.trans (q3.mono q2'.size)
    go_wp2_with fail
    refine (build_any _ _ _ uw cw sr 0 w3 (h0.later q3') (h1.later q3') (h2.later q3') (by omega) (by omega) (by omega) (by omega) (fun i hi => by have := hs0.out i hi; omega) hmo.out).mono ?_
    rintro e w4 ⟨L1, s1, t1, rfl, T1, e1, e2, e3, e4, e5, e6, q4⟩
    have B1 : Built s1 uw false Prod.snd (0 : Nat) sr := ⟨e1, e3, e5⟩
    have C1 : Built t1 cw true (fun _ => 1) (0 : Nat) sr := ⟨e2, e4, e6⟩
    have sp1 := T1.span
    clear e1 e2 e3 e4 e5 e6
    have q4' := q3'.trans (q4.mono q3'.size)
    go_wp2_with fail
    refine (zzat_any tn (by omega) _).mono ?_
    rintro e w5 ⟨rfl, q5⟩
    have i1 := o1.isIn
    have iw := ow.isIn
    have n1 := q2.size
    have n2 := q3.size
    have n3 := q4.size
    have n4 := q5.size
    have T1' := T1.below q5
    have o1' := ((o1.below q3).below q4).below q5
    have ow' := (ow.below q4).below q5
    clear T1 o1 ow
    go_wp2_with fail
    refine (keptBuilt L1 _ w1.heap.size s1 t1 uw cw sr 0 tn b1 l b w5 T1' B1 C1 aU0 aC0 o1' (by omega) (fun k hk => by have := i1 k hk; omega) (by omega) HB.out).mono ?_
    rintro e w6 ⟨g1, rfl, og1, q6, fr6, ly6⟩
    have ow6 : Own w6 w2.heap.size vw _ := ow'.of_block fun k hk => by
      have a := iw k hk
      have lo := sp1.lo
      refine fr6 k (by omega) (by omega) (fun h => ?_) (fun h => ?_) (fun h => ?_)
      · have := sp1.u k h; omega
      · have := sp1.c k h; omega
      · have := i1 k h; omega
    have HQ6 := hide (show Below wp.heap.size wp w6 from (q4'.trans (q5.mono q4'.size)).trans (q6.mono q1.size))
    have z1 := keptP_len l uw cw sr (0 : Nat) tn hmo.out (by omega)
    have rg := og1.rd
    have rw6 := ow6.rd
    generalize keptP l uw cw sr ((0 : Nat) : Int) tn = X at *
    clear ly6 fr6 q1 q2 q3 q4 q5 q6 q2' q3' q4' sp1 T1' o1' ow' ow6 og1 ob i1 iw n1 n2 n3 n4 B1 C1 aU0 aC0 h0 h1 h2 h3
    have hbb : (b == b) = true := by simp
    go_wp2_with fail
    refine (equal_bytes _ _ X _ rg rw6 (by omega)).mono ?_
    rintro e w7 ⟨rfl, q7⟩
    go_wp2_with fail
    go_ret
    exact ⟨rfl, HQ6.out.trans (q7.mono HQ6.out.size)⟩
end Go.Proofs.Qxb6628726a
