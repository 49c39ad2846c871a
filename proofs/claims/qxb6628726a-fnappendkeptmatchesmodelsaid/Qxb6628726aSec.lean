/-
  keptSection (seat b6628726a): a section of the model.
-/
import Derived.Test.Qxb6628726aKeep
namespace Go.Proofs.Qxb6628726a
open Go.RowKit
set_option linter.unusedVariables false
attribute [local go_sem ↓] Go.wp_at_zero Go.wp_at_succ

theorem Rd.at_ {w : World} {v : Value} {n : Nat} {f : Nat → Value} (h : Rd w v n 1 f) (hn : 0 < n) : ∃ b off cap, v = .slice (some ⟨b, off, none⟩) n cap ∧ b < w.heap.size ∧ ∀ i, i < n → w.cell? ⟨b, off + i, none⟩ = some (f i) := by
  obtain ⟨a, cap, rfl, k⟩ := h
  obtain ⟨b, off, rfl, hb, hc⟩ := k hn
  exact ⟨b, off, cap, rfl, hb, fun i hi => hc i (by omega)⟩

/-- Where the previous kept entry stands. -/
def prevOf (m k : Nat) : Int := if k ≤ m then -1 else (k : Int) - 1

set_option maxRecDepth 100000 in
set_option maxHeartbeats 2000000 in
theorem section_any (v vi vv vk : Value) (l : List Int) (n m T : Nat) (inst : Nat → Nat) (val : Nat → Int) (w0 w : World) (hown : Own w w0.heap.size v l) (hbel : Below w0.heap.size w0 w)
    (hvi : Rd w0 vi n 1 (fun i => .int .i64 (inst i))) (hvv : Rd w0 vv n 1 (fun i => .int .i64 (val i))) (hvk : Rd w0 vk n 1 (fun i => .bool (decide (m ≤ i)))) (hm : m ≤ n) (hn : n ≤ 100000) (hl : l.length ≤ 10000000)
    (hin : ∀ j, j < n → inst j ≤ T) (hmo : ∀ j, j + 1 < n → inst j ≤ inst (j + 1)) (hT : T ≤ 4611686018427387904) :
    Calls Try.prog 17 #[v, vi, vv, vk, .int .i64 ((n - m : Nat) : Int), .int .i64 T] w fun e w' => ∃ v', e = .returned v' ∧ Own w' w0.heap.size v' (l ++ sect inst val T m (n - m)) ∧ Below w0.heap.size w0 w' := by
  have hsz := hbel.size
  have HIn := hide hin
  have HMo := hide hmo
  clear hin hmo
  obtain ⟨ai, capi, ei, ki⟩ := id hvi
  obtain ⟨av, capv, ev, kv⟩ := id hvv
  obtain ⟨ak, capk, ek, kk⟩ := id hvk
  subst ei ev ek
  clear ki kv kk
  have HVi := hide hvi
  have HVv := hide hvv
  have HVk := hide hvk
  clear hvi hvv hvk
  have hu0 := uv_len 9 ((n - m : Nat) : Int)
  go_enter Try.func17, Try.ntmps17
  go_wp2_with fail
  refine (uv30_any w0.heap.size v l _ (by omega) (by omega) _ hown hsz (by omega)).mono ?_
  rintro e w1 ⟨v1, rfl, own1, led1⟩
  have hb1 := hbel.trans (led1.below hsz fun k hk => (hown.lt k hk).1)
  have hP1 : (l ++ uv 9 ((n - m : Nat) : Int)).length ≤ 10000010 := by rw [List.length_append]; omega
  generalize hP : l ++ uv 9 ((n - m : Nat) : Int) = P at own1 hP1
  have HP := hide hP
  clear hP led1 hown hbel hsz hu0
  go_wp2_with fail
  go_loopg [0, 13, 14, 15] n (fun g o p i _ wr => ∃ k : Nat, g = n - k ∧ k ≤ n ∧ i = .int .i64 k ∧ p = .int .i64 (prevOf m k) ∧ Own wr w0.heap.size o (P ++ body inst val T m (k - m)) ∧ Below w0.heap.size w0 wr)
  case atStart => exact ⟨0, by omega, by omega, rfl, by rw [prevOf, if_pos (Nat.zero_le _)], by rw [Nat.zero_sub, body, List.append_nil]; exact own1, hb1⟩
  case round =>
    obtain ⟨k, hgk, hk, rfl, rfl, ownr, belr⟩ := hrel
    have HG := hide hgk
    clear hgk own1 hb1
    by_cases hlt : k < n
    · obtain ⟨bi, oi, ci, ei, hbi, hci⟩ := Rd.at_ HVi.out (by omega)
      obtain ⟨bv, ov, cv, ev, hbv, hcv⟩ := Rd.at_ HVv.out (by omega)
      obtain ⟨bk, ok, ck, ek, hbk, hck⟩ := Rd.at_ HVk.out (by omega)
      simp only [Value.slice.injEq] at ei ev ek
      obtain ⟨rfl, -, rfl⟩ := ei
      obtain ⟨rfl, -, rfl⟩ := ev
      obtain ⟨rfl, -, rfl⟩ := ek
      have xk := (belr.cell (p := ⟨bk, ok + k, none⟩) hbk).trans (hck k hlt)
      have xi := (belr.cell (p := ⟨bi, oi + k, none⟩) hbi).trans (hci k hlt)
      have hszr := belr.size
      have HLt := hide hlt
      by_cases hkm : m ≤ k
      · have hd : decide (m ≤ k) = true := decide_eq_true hkm
        rw [hd] at xk
        have hik := HIn.out k hlt
        have hbody := hide (show body inst val T m (k + 1 - m) = body inst val T m (k - m) ++ uv 9 ((stepOf inst T m k : Nat) : Int) ++ uv 9 (IntKind.u64.wrap (val k)) by
            rw [show k + 1 - m = (k - m) + 1 by omega, body, show m + (k - m) = k by omega])
        have hbl := body_len inst val T m (k - m)
        have hQl : (P ++ body inst val T m (k - m)).length ≤ 100000000 := by rw [List.length_append]; omega
        generalize hQ : P ++ body inst val T m (k - m) = Q at ownr hQl
        have HQ := hide hQ
        have hprev := hide (show prevOf m (k + 1) = (k : Int) by unfold prevOf; rw [if_neg (by omega)]; omega)
        have HU := hide (fun (w1 : World) (v1 : Value) (Q1 : List Int) (x : Int) (hx0 : 0 ≤ x) (hx : x < 18446744073709551616) (h1 : Own w1 w0.heap.size v1 Q1) (hb1 : Below w0.heap.size w0 w1) (hq : Q1.length ≤ 100000010) => (show Calls Try.prog 30 #[v1, .int .u64 x] w1 fun e w' => ∃ v', e = .returned v' ∧ Own w' w0.heap.size v' (Q1 ++ uv 9 x) ∧ Below w0.heap.size w0 w' from by
          refine (uv30_any w0.heap.size v1 Q1 x hx0 hx w1 h1 hb1.size (by omega)).mono ?_
          rintro e w2 ⟨v2, rfl, h2, led2⟩
          exact ⟨v2, rfl, h2, hb1.trans (led2.below hb1.size fun k hk => (h1.lt k hk).1)⟩))
        clear hQ hd hck
        go_upto_region 8 with fail
        by_cases e : k = m
        · have hpv : prevOf m k = -1 := by unfold prevOf; rw [if_pos (by omega)]
          rw [hpv]
          obtain ⟨st, hst⟩ : ∃ st, stepOf inst T m k = st := ⟨_, rfl⟩
          have hst1 : T - inst k = st := by rw [← hst]; unfold stepOf; rw [if_pos e]
          have hq : (T : Int) - (inst k : Int) = (st : Int) := by omega
          rw [hst] at hbody
          have ownx := ownr
          have belx := belr
          have hstb : st ≤ 4611686018427387904 := by omega
          have hwr : IntKind.u64.wrap (st : Int) = (st : Int) := by rw [IntKind.wrap_u64]; omega
          clear hst hst1 hpv e
          go_wp2_with fail
          refine (HU.out _ _ Q (st : Int) (by omega) (by omega) ownx belx (by omega)).mono ?_
          rintro e w2 ⟨v2, rfl, own2, bel2⟩
          have hu2 := uv_len 9 (st : Int)
          have xv := (bel2.cell (p := ⟨bv, ov + k, none⟩) hbv).trans (hcv k HLt.out)
          have hs2 : bv < w2.heap.size := Nat.lt_of_lt_of_le hbv bel2.size
          generalize val k = y at xv hbody
          clear hcv
          go_wp2_with fail
          refine (HU.out _ _ (Q ++ uv 9 (st : Int)) (IntKind.u64.wrap y) (by rw [IntKind.wrap_u64]; omega) (by rw [IntKind.wrap_u64]; omega) own2 bel2 (by rw [List.length_append]; omega)).mono ?_
          rintro e w3 ⟨v3, rfl, own3, bel3⟩
          go_wp2_with fail
          go_roundg (n - (k + 1))
          case measure => rw [HG.out]; have := HLt.out; omega
          case rel =>
            refine ⟨k + 1, rfl, by have := HLt.out; omega, by go_num, by rw [hprev.out], ?_, bel3⟩
            rw [hbody.out, ← List.append_assoc, ← List.append_assoc, HQ.out]
            exact own3
        · obtain ⟨p, hp⟩ : ∃ p, k = p + 1 := ⟨k - 1, by omega⟩
          have hpv : prevOf m k = (p : Int) := by unfold prevOf; rw [if_neg (by omega)]; omega
          rw [hpv]
          have hmo := HMo.out p (by omega)
          rw [← hp] at hmo
          obtain ⟨st, hst⟩ : ∃ st, stepOf inst T m k = st := ⟨_, rfl⟩
          have hst1 : inst k - inst p = st := by rw [← hst]; unfold stepOf; rw [if_neg e, show k - 1 = p by omega]
          have hq : (inst k : Int) - (inst p : Int) = (st : Int) := by omega
          have xp := (belr.cell (p := ⟨bi, oi + p, none⟩) hbi).trans (hci p (by omega))
          have hpn : (p : Int) < (n : Int) := by omega
          rw [hst] at hbody
          have HPk := hide hp
          have hpp : (0 : Int) ≤ (p : Int) := by omega
          have hstb : st ≤ 4611686018427387904 := by omega
          have hwr : IntKind.u64.wrap (st : Int) = (st : Int) := by rw [IntKind.wrap_u64]; omega
          clear hst hst1 hpv hp e
          go_upto_region 9 with fail
          go_region
          have ownx : Own wr.drew w0.heap.size u0 Q := ownr.below (Below.refl _ _).drew
          have belx : Below w0.heap.size w0 wr.drew := belr.drew
          go_wp2_with fail
          refine (HU.out _ _ Q (st : Int) (by omega) (by omega) ownx belx (by omega)).mono ?_
          rintro e w2 ⟨v2, rfl, own2, bel2⟩
          have hu2 := uv_len 9 (st : Int)
          have xv := (bel2.cell (p := ⟨bv, ov + k, none⟩) hbv).trans (hcv k HLt.out)
          have hs2 : bv < w2.heap.size := Nat.lt_of_lt_of_le hbv bel2.size
          generalize val k = y at xv hbody
          clear hcv
          go_wp2_with fail
          refine (HU.out _ _ (Q ++ uv 9 (st : Int)) (IntKind.u64.wrap y) (by rw [IntKind.wrap_u64]; omega) (by rw [IntKind.wrap_u64]; omega) own2 bel2 (by rw [List.length_append]; omega)).mono ?_
          rintro e w3 ⟨v3, rfl, own3, bel3⟩
          go_wp2_with fail
          go_roundg (n - (k + 1))
          case measure => rw [HG.out]; have := HLt.out; omega
          case rel =>
            refine ⟨k + 1, rfl, by have := HLt.out; omega, by go_num, by rw [hprev.out], ?_, bel3⟩
            rw [hbody.out, ← List.append_assoc, ← List.append_assoc, HQ.out]
            exact own3
      · have hd : decide (m ≤ k) = false := decide_eq_false hkm
        rw [hd] at xk
        clear hd hck hci hcv
        go_wp2_with fail
        go_roundg (n - (k + 1))
        case measure => rw [HG.out]; have := HLt.out; omega
        case rel =>
          refine ⟨k + 1, rfl, by have := HLt.out; omega, by go_num, ?_, ?_, belr⟩
          · unfold prevOf; rw [if_pos (by omega), if_pos (by omega)]
          · rw [show k + 1 - m = k - m by omega]; exact ownr
    · obtain rfl : k = n := by omega
      go_wp2_with fail
      go_ret
      refine ⟨_, rfl, ?_, belr⟩
      rw [sect, ← List.append_assoc, HP.out]
      exact ownr
end Go.Proofs.Qxb6628726a
