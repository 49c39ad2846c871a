/-
  keptModel (seat b6628726a): the walk.
-/
import Derived.Test.Qxb6628726aModB
namespace Go.Proofs.Qxb6628726a
open Go.RowKit
set_option linter.unusedVariables false
attribute [local go_sem ↓] Go.wp_at_zero Go.wp_at_succ

theorem Own.lower {w : World} {B B' : Nat} {v : Value} {l : List Int} (h : Own w B v l) (hb : B' ≤ B) : Own w B' v l := by
  refine ⟨h.1, ?_⟩
  rcases h.2 with a | ⟨g, cap, cur, a, b, c, d⟩
  · exact .inl a
  · exact .inr ⟨g, cap, cur, a, Nat.le_trans hb b, c, d⟩

def ModOut (l : List Int) (sr : List (Int × Int)) (t n oU oC : Nat) : List Int :=
  if (n - oU) + (n - oC) = 0 then l else l ++ hdr t ++ sect (instM (mg Prod.snd sr sr.length) 0) (fun j => ((mg Prod.snd sr sr.length).getD j (0, 0)).2) t oU (n - oU) ++ sect (instM (mg (fun _ => 1) sr sr.length) 0) (fun j => ((mg (fun _ => 1) sr sr.length).getD j (0, 0)).2) t oC (n - oC)

set_option maxRecDepth 100000 in
set_option maxHeartbeats 4000000 in
theorem model_walk (vb v1 v2 v3 : Value) (uw cw sr : List (Int × Int)) (l : List Int) (t n oU oC : Nat) (af : Nat → Int) (w : World) (hb : Rd w vb l.length 1 (bf l)) (h1 : Rd2 w v1 uw) (h2 : Rd2 w v2 cw) (h3 : Rd2 w v3 sr)
    (l0 : uw.length ≤ 1000000) (l1 : cw.length ≤ 1000000) (l2 : sr.length ≤ 100000) (l3 : l.length ≤ 2000000) (ht : t ≤ 4611686018427387904) (mf : MF uw cw sr t n oU oC af) :
    Calls Try.prog 8 #[vb, v1, v2, v3, .int .i64 t] w fun e w' => ∃ v', e = .returned (.tuple #[v', .bool (decide ((n - oU) + (n - oC) ≠ 0))]) ∧ Own w' w.heap.size v' (ModOut l sr t n oU oC) ∧ Below w.heap.size w w' := by
  obtain ⟨i0, hi0, hz0, hz1, hz2⟩ := info_parts info2
  obtain ⟨i4, hi4, hz40, hz41, hz42⟩ := info_parts info4
  obtain ⟨a1, c1, rfl, k1⟩ := id h1
  obtain ⟨a2, c2, rfl, k2⟩ := id h2
  obtain ⟨a3, c3, rfl, k3⟩ := id h3
  have K1 := hide k1
  have K2 := hide k2
  have K3 := hide k3
  have MFh := hide mf
  clear k1 k2 k3 mf
  go_enter Try.func8, Try.ntmps8
  go_wp2_with (at_make; refine wpList_make_own _ (by rfl) _ _ 45 (by rfl) w.heap.size 2 i0 (.int .i64 0) 1 Try.underlying45 hi0 hz0 hz1 .i64 .i64 _ sr.length (by rfl) (by rfl) ?c0 ?c1 ?c2 ?c3 ?_)
  case c0 => omega
  case c1 => rw [hz2]; omega
  case c2 => unfold maxLen; omega
  case c3 => exact Nat.le_refl _
  intro w1 hown1 hgr1
  have sz1 := hgr1.size
  have lt1 := (World.ownsRow.lt hown1 w.heap.size rfl).2
  go_wp2_with (at_make; refine wpList_make_own _ (by rfl) _ _ 45 (by rfl) w.heap.size 2 i0 (.int .i64 0) 1 Try.underlying45 hi0 hz0 hz1 .i64 .i64 _ sr.length (by rfl) (by rfl) ?c0 ?c1 ?c2 ?c3 ?_)
  case c0 => omega
  case c1 => rw [hz2]; omega
  case c2 => unfold maxLen; omega
  case c3 => omega
  intro w2 hown2 hgr2
  have sz2 := hgr2.size
  have lt2 := (World.ownsRow.lt hown2 w1.heap.size rfl).2
  go_wp2_with (at_make; refine wpList_make_own _ (by rfl) _ _ 45 (by rfl) w.heap.size 2 i0 (.int .i64 0) 1 Try.underlying45 hi0 hz0 hz1 .i64 .i64 _ sr.length (by rfl) (by rfl) ?c0 ?c1 ?c2 ?c3 ?_)
  case c0 => omega
  case c1 => rw [hz2]; omega
  case c2 => unfold maxLen; omega
  case c3 => omega
  intro w3 hown3 hgr3
  have sz3 := hgr3.size
  have r0 : R3 w3 w.heap.size w.heap.size w1.heap.size w2.heap.size sr.length sr.length sr.length [] [] [] :=
    ⟨RI.of_block (RI.of_block (l := []) hown1 (hgr2.block _ lt1 (by simp))) (hgr3.block _ (by omega) (by simp)), RI.of_block (l := []) hown2 (hgr3.block _ lt2 (by simp)), hown3, by omega, by omega, by omega⟩
  have b0 : Below w.heap.size w w3 := (((Below.refl _ _).grown hgr1 (Nat.le_refl _) (fun k hk => by cases hk)).grown hgr2 (by omega) (fun k hk => by cases hk)).grown hgr3 (by omega) (fun k hk => by cases hk)
  have R0 := hide r0
  have B0 := hide b0
  clear r0 b0 hown1 hown2 hown3 hgr1 hgr2 hgr3
  go_wp2_with fail
  go_loopg [12, 13, 14, 15] sr.length (fun g a b c i wr => ∃ (k gi gu gc ci cu cc : Nat), g = sr.length - k ∧ k ≤ sr.length ∧ a = .slice (some ⟨gi, 0, none⟩) (kI sr k).length ci ∧ b = .slice (some ⟨gu, 0, none⟩) (kU sr k).length cu ∧ c = .slice (some ⟨gc, 0, none⟩) (kC sr k).length cc ∧ i = .int .i64 k ∧ R3 wr w.heap.size gi gu gc ci cu cc (kI sr k) (kU sr k) (kC sr k) ∧ Below w.heap.size w wr)
  case atStart => exact ⟨0, _, _, _, _, _, _, by omega, by omega, rfl, rfl, rfl, rfl, R0.out, B0.out⟩
  case round =>
    obtain ⟨k, gi, gu, gc, ci, cu, cc, hgk, hk, rfl, rfl, rfl, rfl, rr, br⟩ := hrel
    have HG := hide hgk
    clear hgk R0 B0 sz1 sz2 sz3 lt1 lt2
    by_cases hlt : k < sr.length
    · have hIl := kI_le sr k
      have hUl : (kI sr k).length ≤ (kU sr k).length ∧ (kU sr k).length ≤ (kI sr k).length := by rw [kU_len]; omega
      have hCl : (kI sr k).length ≤ (kC sr k).length ∧ (kC sr k).length ≤ (kI sr k).length := by rw [kC_len]; omega
      have HSame := hide (k_same sr k)
      have HNew := hide (k_new sr k)
      have hsz := br.size
      obtain ⟨b, off, e3, hb3, hc3⟩ := K3.out (by omega)
      subst e3
      have q1 : wr.cell? ⟨b, off + k * 2, none⟩ = _ := (br.cell (p := ⟨b, off + k * 2, none⟩) hb3).trans (hc3 k hlt).1
      have q2 : wr.cell? ⟨b, off + k * 2 + 1, none⟩ = _ := (br.cell (p := ⟨b, off + k * 2 + 1, none⟩) hb3).trans (hc3 k hlt).2
      clear hc3
      have i1 : (0 : Int) ≤ (k : Int) := by omega
      have i2 : (k : Int) < (sr.length : Int) := by omega
      have hbi : b < w.heap.size := hb3
      generalize kI sr k = li at *
      generalize kU sr k = lu at *
      generalize kC sr k = lc at *
      generalize sr.getD k (0, 0) = x at *
      obtain ⟨x1, x2⟩ := x
      simp only at q1 q2 HSame HNew
      obtain ⟨sm, hsm⟩ : ∃ sm : Bool, (sm = true ↔ (0 < li.length ∧ li.getD (li.length - 1) 0 = x1)) := ⟨decide (0 < li.length ∧ li.getD (li.length - 1) 0 = x1), decide_eq_true_iff⟩
      have HSM := hide hsm
      clear hsm
      go_upto_region 8 with fail
      go_cut [59] (fun b wx => b = .bool sm ∧ Below wr.heap.size wr wx)
      case first =>
        by_cases hz : 0 < li.length
        · have hx := rr.i.at_ (li.length - 1) (by omega)
          have hz' : (0 : Int) < (li.length : Int) := by omega
          have j1 : (0 : Int) ≤ (li.length : Int) - 1 := by omega
          have j2 : (li.length : Int) - 1 < (li.length : Int) := by omega
          have j3 : ((li.length : Int) - 1).toNat = li.length - 1 := by omega
          clear HSame HNew
          generalize li.getD (li.length - 1) 0 = la at *
          by_cases he : la = x1
          · have heb : (la == x1) = true := by rw [beq_iff_eq]; exact he
            obtain rfl : sm = true := HSM.out.2 ⟨hz, he⟩
            clear he
            go_quiet (fail)
            go_wp2_with fail
            go_meet
            case rel => exact ⟨rfl, below_drewN (Below.refl _ _) _⟩
          · have heb : (la == x1) = false := by rw [beq_eq_false_iff_ne]; exact he
            obtain rfl : sm = false := by
              cases sm
              · rfl
              · exact absurd (HSM.out.1 rfl).2 he
            clear he
            go_quiet (fail)
            go_wp2_with fail
            go_meet
            case rel => exact ⟨rfl, below_drewN (Below.refl _ _) _⟩
        · obtain rfl : sm = false := by
            cases sm
            · rfl
            · exact absurd (HSM.out.1 rfl).1 hz
          have hz' : ¬ (0 : Int) < (li.length : Int) := by omega
          have hz2' : decide ((0 : Int) < (li.length : Int)) = false := decide_eq_false hz'
          go_quiet (fail)
          go_wp2_with fail
          go_meet
          case rel => exact ⟨rfl, below_drewN (Below.refl _ _) _⟩
      case rest =>
        obtain ⟨rfl, hb2⟩ := hcut
        have rr2 := rr.below hb2
        have br2 := br.trans (hb2.mono hsz)
        have t1 := cell_later hb2 q1
        have t2 := cell_later hb2 q2
        clear rr br q1 q2 hb2
        cases sm with
        | true =>
          obtain ⟨hz, he⟩ := HSM.out.1 rfl
          obtain ⟨s1, s2, s3⟩ := HSame.out hz he
          have HS := hide (And.intro s1 (And.intro s2 s3))
          have y1 := rr2.u.at_ (li.length - 1) (by omega)
          have y2 := rr2.c.at_ (li.length - 1) (by omega)
          clear s1 s2 s3 HSame HNew he HSM
          generalize lu.getD (li.length - 1) 0 = yu at *
          generalize lc.getD (li.length - 1) 0 = yc at *
          have fz1 := rr2.u.fz (li.length - 1)
          have fz2 := rr2.c.fz (li.length - 1)
          have n1 := rr2.uc
          have n2 := rr2.iu
          have n3 := rr2.ic
          have g1 := rr2.u.lt.1
          have g2 := rr2.c.lt.1
          have m1 : gu ≠ b := by omega
          have m2 : gc ≠ b := by omega
          have j1 : (0 : Int) ≤ (li.length : Int) - 1 := by omega
          have j2 : (li.length : Int) - 1 < (lu.length : Int) := by omega
          have j3 : ((li.length : Int) - 1).toNat = li.length - 1 := by omega
          have j2' : (li.length : Int) - 1 < (lc.length : Int) := by omega
          go_upto_region 9 with fail
          go_region
          go_wp2_with fail
          go_roundg (sr.length - (k + 1))
          case measure => rw [HG.out]; omega
          case rel =>
            obtain ⟨s1, s2, s3⟩ := HS.out
            refine ⟨k + 1, gi, gu, gc, ci, cu, cc, rfl, by omega, by rw [s1], by rw [s2, List.length_set], by rw [s3, List.length_set], by go_num, ?_, ?_⟩
            · rw [s1, s2, s3]
              exact ((rr2.setU _ _).setC _ _).below (Below.refl _ _).drew
            · exact ((br2.setCell g1 _).setCell g2 _).drew
        | false =>
          obtain ⟨s1, s2, s3⟩ := HNew.out (fun h => by have := HSM.out.2 h; cases this)
          have HS := hide (And.intro s1 (And.intro s2 s3))
          have hlW := br2.size
          clear s1 s2 s3 HSame HNew HSM
          go_wp2_with (at_builtin; refine wpList_append_lies _ (by rfl) _ _ 45 (by rfl) w.heap.size 2 i0 (.int .i64 0) 1 8 Try.underlying45 hi0 hz0 hz1 hz2 rfl (by omega) (.slice (some ⟨gi, 0, none⟩) li.length ci) li.length (I64 li) (by rfl) (World.ownsRow.alloc rr2.i _) ⟨wc.heap.size, 0, none⟩ 1 1 [.int .i64 x1] (by rfl) (by rfl) ?c1 ?c2 (by omega) ?c3 ?c4 ?c5 (wc.heap.size + 1) ?c6 ?_)
          case c1 => exact cell_one_new _ _ _
          case c2 => intro u hu; simp at hu; subst hu; rfl
          case c3 => unfold maxLen; omega
          case c4 => omega
          case c5 => simp; omega
          case c6 => simp
          intro ga capa w4 howna hgra hata hlta
          have rr4 := rr2.appI howna hgra hata
          have bb4 := below_app (B := w.heap.size) hgra rr2.i.lt.1 hlW
          have br4 := br2.trans bb4
          have t2' : w4.cell? ⟨b, off + k * 2 + 1, none⟩ = _ := (bb4.cell (p := ⟨b, off + k * 2 + 1, none⟩) hbi).trans t2
          have hlW4 := br4.size
          clear howna hgra hata bb4 br2 rr2 t1 t2 hlW
          go_wp2_with (at_builtin; refine wpList_append_lies _ (by rfl) _ _ 45 (by rfl) w.heap.size 2 i0 (.int .i64 0) 1 8 Try.underlying45 hi0 hz0 hz1 hz2 rfl (by omega) (.slice (some ⟨gu, 0, none⟩) lu.length cu) lu.length (I64 lu) (by rfl) (World.ownsRow.alloc rr4.u _) ⟨w4.heap.size, 0, none⟩ 1 1 [.int .i64 x2] (by rfl) (by rfl) ?c1 ?c2 (by omega) ?c3 ?c4 ?c5 (w4.heap.size + 1) ?c6 ?_)
          case c1 => exact cell_one_new _ _ _
          case c2 => intro u hu; simp at hu; subst hu; rfl
          case c3 => unfold maxLen; omega
          case c4 => omega
          case c5 => simp; omega
          case c6 => simp
          intro gb capb w5 hownb hgrb hatb hltb
          have rr5 := rr4.appU hownb hgrb hatb
          have bb5 := below_app (B := w.heap.size) hgrb rr4.u.lt.1 hlW4
          have br5 := br4.trans bb5
          have hlW5 := br5.size
          clear hownb hgrb hatb bb5 br4 rr4 t2' hlW4
          go_wp2_with (at_builtin; refine wpList_append_lies _ (by rfl) _ _ 45 (by rfl) w.heap.size 2 i0 (.int .i64 0) 1 8 Try.underlying45 hi0 hz0 hz1 hz2 rfl (by omega) (.slice (some ⟨gc, 0, none⟩) lc.length cc) lc.length (I64 lc) (by rfl) (World.ownsRow.alloc rr5.c _) ⟨w5.heap.size, 0, none⟩ 1 1 [.int .i64 1] (by rfl) (by rfl) ?c1 ?c2 (by omega) ?c3 ?c4 ?c5 (w5.heap.size + 1) ?c6 ?_)
          case c1 => exact cell_one_new _ _ _
          case c2 => intro u hu; simp at hu; subst hu; rfl
          case c3 => unfold maxLen; omega
          case c4 => omega
          case c5 => simp; omega
          case c6 => simp
          intro gd capd w6 hownc hgrc hatc hltc
          have rr6 := rr5.appC hownc hgrc hatc
          have br6 := br5.trans (below_app (B := w.heap.size) hgrc rr5.c.lt.1 hlW5)
          clear hownc hgrc hatc br5 rr5 hlW5
          go_wp2_with fail
          go_roundg (sr.length - (k + 1))
          case measure => rw [HG.out]; omega
          case rel =>
            obtain ⟨s1, s2, s3⟩ := HS.out
            refine ⟨k + 1, ga, gb, gd, capa, capb, capd, rfl, by omega, by rw [s1, List.length_append]; rfl, by rw [s2, List.length_append]; rfl, by rw [s3, List.length_append]; rfl, by go_num, ?_, br6⟩
            rw [s1, s2, s3]
            exact rr6
    · obtain rfl : k = sr.length := by omega
      have mf := MFh.out
      have hCl : (kI sr sr.length).length ≤ (kC sr sr.length).length := by rw [kC_len]; exact Nat.le_refl _
      have hIl := kI_le sr sr.length
      have e0 := mf.len
      subst e0
      have HU := hide mf.hu
      have HC := hide mf.hc
      have HSt := hide mf.st
      have HEn := hide mf.en
      have HBd := hide mf.bd
      have HVl := hide mf.vl
      have HIn := hide mf.ins
      have HMo := hide mf.mo
      have oU1 := mf.ou
      have oC1 := mf.oc
      have hsz := br.size
      have HKI : Hid (kI sr sr.length = (mg Prod.snd sr sr.length).map Prod.fst) := hide rfl
      have HKU : Hid (kU sr sr.length = (mg Prod.snd sr sr.length).map Prod.snd) := hide rfl
      have HKC : Hid (kC sr sr.length = (mg (fun _ => 1) sr sr.length).map Prod.snd) := hide rfl
      clear mf MFh hlt
      generalize kI sr sr.length = li at *
      generalize kU sr sr.length = lu at *
      generalize kC sr sr.length = lc at *
      go_wp2_with (at_make; refine wpList_make_full _ (by rfl) _ _ 46 (by rfl) w.heap.size 4 i4 (.bool false) 1 Try.underlying46 hi4 hz40 hz41 .i64 .i64 _ _ li.length (by rfl) (by rfl) (by rfl) (by rfl) ?c1 ?c2 ?c3 ?_)
      case c1 => rw [hz42]; omega
      case c2 => unfold maxLen; omega
      case c3 => exact hsz
      intro w7 hown7 hgr7
      have sz7 := hgr7.size
      have lt7 := (World.ownsRow.lt hown7 wr.heap.size rfl).2
      go_wp2_with (at_make; refine wpList_make_full _ (by rfl) _ _ 46 (by rfl) w.heap.size 4 i4 (.bool false) 1 Try.underlying46 hi4 hz40 hz41 .i64 .i64 _ _ li.length (by rfl) (by rfl) (by rfl) (by rfl) ?c1 ?c2 ?c3 ?_)
      case c1 => rw [hz42]; omega
      case c2 => unfold maxLen; omega
      case c3 => omega
      intro w8 hown8 hgr8
      have s0 : S2 w w8 w.heap.size gi gu gc ci cu cc wr.heap.size w7.heap.size li.length li lu lc (fun _ => false) (fun _ => false) :=
        ⟨(rr.keep fun k hk => hgr7.block k (rr.lt k hk).2 (by simp)).keep fun k hk => hgr8.block k (by have := (rr.lt k hk).2; omega) (by simp), (Fl.made hown7).of_block (hgr8.block _ lt7 (by simp)), Fl.made hown8, by omega, fun k hk => by have := (rr.lt k hk).2; omega, (br.grown hgr7 hsz (fun k hk => by cases hk)).grown hgr8 (by omega) (fun k hk => by cases hk)⟩
      generalize hfU : wr.heap.size = fU at *
      generalize hfC : w7.heap.size = fC at *
      have s1 := s0.congr (fl_none li.length oU) (fl_none li.length oC)
      have S1 := hide s1
      clear s0 s1 hown7 hown8 hgr7 hgr8 rr br hfU hfC sz7 lt7 hsz
      go_wp2_with fail
      go_loopg [20, 21, 22, 23] li.length (fun g a b c j wx => ∃ (k ku kc : Nat) (jj : Int), g = li.length - k ∧ k ≤ li.length ∧ a = .int .i64 ku ∧ b = .int .i64 kc ∧ c = .int .i64 (af (li.length - k)) ∧ j = .int .i64 jj ∧ jj = (li.length : Int) - k - 1 ∧ ku = min k (li.length - oU) ∧ kc = min k (li.length - oC) ∧ S2 w wx w.heap.size gi gu gc ci cu cc fU fC li.length li lu lc (fl (li.length - k) oU) (fl (li.length - k) oC))
      case atStart => exact ⟨0, 0, 0, (li.length : Int) - 1, by omega, by omega, rfl, rfl, by rw [Nat.sub_zero, HEn.out], rfl, by omega, by omega, by omega, S1.out⟩
      case round =>
        obtain ⟨k, ku, kc, jj, hgk, hk, rfl, rfl, rfl, rfl, hjj, hku, hkc, s2⟩ := hrel
        have HG2 := hide hgk
        have HJ := hide hjj
        have HKu := hide hku
        have HKc := hide hkc
        clear hgk hjj hku hkc S1
        obtain ⟨WA, hWA⟩ : ∃ W, W = wr := ⟨_, rfl⟩
        subst hWA
        by_cases hlt : k < li.length
        · obtain ⟨j, hj⟩ : ∃ j : Nat, jj = j := ⟨jj.toNat, by have := HJ.out; omega⟩
          subst hj
          have HJn := hide (show j = li.length - (k + 1) by have := HJ.out; omega)
          have hjl : j < li.length := by have := HJn.out; omega
          have p1 : (0 : Int) ≤ (j : Int) := by omega
          have p2 : (j : Int) < (li.length : Int) := by omega
          have hx := s2.r.i.at_ j hjl
          have HUj := hide (HU.out j hjl)
          have HCj := hide (HC.out j hjl)
          have HInj := HIn.out j hjl
          have HStj := hide (HSt.out j hjl)
          have HVlj := HVl.out j hjl
          rw [show j + 1 = li.length - k by have := HJn.out; omega] at HCj HStj
          have hbd := HBd.out (li.length - k)
          generalize af (li.length - k) = fa at *
          generalize li.getD j 0 = aj at *
          go_upto_block 4 with fail
          go_cut [25] (fun _ wx => S2 w wx w.heap.size gi gu gc ci cu cc fU fC li.length li lu lc (fl (li.length - (k + 1)) oU) (fl (li.length - k) oC))
          case first =>
            go_wp2_with fail
            go_loopg [25] uw.length (fun g i wy => WA = wy ∧ ∃ q : Nat, g = uw.length - q ∧ q ≤ uw.length ∧ i = .int .i64 q ∧ ∀ i, i < q → ¬ ((t : Int) - aj < (uw.getD i (0, 0)).2))
            case atStart => exact ⟨rfl, 0, by omega, by omega, rfl, fun i hi => by omega⟩
            case round =>
              obtain ⟨rfl, q, hgq, hq, rfl, hnot⟩ := hrel
              have HGq := hide hgq
              have HNot := hide hnot
              clear hgq hnot
              by_cases hlq : q < uw.length
              · obtain ⟨b, off, e1, hb1, hc1⟩ := K1.out (by omega)
                subst e1
                have hcell : WA.cell? ⟨b, off + q * 2 + 1, none⟩ = _ := (s2.b.cell (p := ⟨b, off + q * 2 + 1, none⟩) hb1).trans (hc1 q hlq).2
                have HS := hide (fun (y : Int × Int) (e : uw.getD q (0, 0) = y) (hy : ¬ (t : Int) - aj < y.2) i (hi : i < q + 1) => (show ¬ (t : Int) - aj < (uw.getD i (0, 0)).2 from by
                  by_cases c : i = q
                  · subst c; rw [e]; exact hy
                  · exact HNot.out i (by omega)))
                have HY := hide (fun (y : Int × Int) (e : uw.getD q (0, 0) = y) (hy : (t : Int) - aj < y.2) => (show oU ≤ j from HUj.out.2 ⟨q, hlq, by rw [e]; exact hy⟩))
                generalize hy : uw.getD q (0, 0) = y at hcell
                have HS2 := hide (HS.out y hy)
                have HY2 := hide (HY.out y hy)
                obtain ⟨y1, y2⟩ := y
                simp only at hcell HS2 HY2
                clear hy hc1 HS HY
                by_cases hyy : (t : Int) - aj < y2
                · have HYy := hide (HY2.out hyy)
                  have hfz := s2.u.fz j
                  have hold := s2.u.at_ j hjl
                  go_wp2_with fail
                  go_meet
                  case rel => exact (s2.setU j).congr (fun i _ => fl_set hlt HJn.out HYy.out i) (fun i _ => rfl)
                · have HSy := hide (HS2.out hyy)
                  go_wp2_with fail
                  go_roundg (uw.length - (q + 1))
                  case measure => rw [HGq.out]; omega
                  case rel => exact ⟨rfl, q + 1, rfl, by omega, by go_num, HSy.out⟩
              · obtain rfl : q = uw.length := by omega
                have HN := hide (show ¬ oU ≤ j from fun h => by
                  obtain ⟨i, hi, x⟩ := HUj.out.1 h
                  exact HNot.out i hi x)
                go_wp2_with fail
                go_meet
                case rel => exact s2.congr (fun i _ => fl_not hlt HJn.out HN.out i) (fun i _ => rfl)
          case rest =>
            have s3 := hcut
            clear hcut s2 hx HUj
            obtain ⟨WB, hWB⟩ : ∃ W, W = wc := ⟨_, rfl⟩
            subst hWB
            go_upto_block 6 with fail
            go_cut [26] (fun _ wx => S2 w wx w.heap.size gi gu gc ci cu cc fU fC li.length li lu lc (fl (li.length - (k + 1)) oU) (fl (li.length - (k + 1)) oC))
            case first =>
              go_wp2_with fail
              go_loopg [26] cw.length (fun g i wy => WB = wy ∧ ∃ q : Nat, g = cw.length - q ∧ q ≤ cw.length ∧ i = .int .i64 q ∧ ∀ i, i < q → ¬ ((t : Int) - aj < (cw.getD i (0, 0)).2 ∧ fa < (cw.getD i (0, 0)).1))
              case atStart => exact ⟨rfl, 0, by omega, by omega, rfl, fun i hi => by omega⟩
              case round =>
                obtain ⟨rfl, q, hgq, hq, rfl, hnot⟩ := hrel
                have HGq := hide hgq
                have HNot := hide hnot
                clear hgq hnot
                by_cases hlq : q < cw.length
                · obtain ⟨b, off, e1, hb1, hc1⟩ := K2.out (by omega)
                  subst e1
                  have hcell : WB.cell? ⟨b, off + q * 2 + 1, none⟩ = _ := (s3.b.cell (p := ⟨b, off + q * 2 + 1, none⟩) hb1).trans (hc1 q hlq).2
                  have hcell1 : WB.cell? ⟨b, off + q * 2, none⟩ = _ := (s3.b.cell (p := ⟨b, off + q * 2, none⟩) hb1).trans (hc1 q hlq).1
                  have HS := hide (fun (y : Int × Int) (e : cw.getD q (0, 0) = y) (hy : ¬ ((t : Int) - aj < y.2 ∧ fa < y.1)) i (hi : i < q + 1) => (show ¬ ((t : Int) - aj < (cw.getD i (0, 0)).2 ∧ fa < (cw.getD i (0, 0)).1) from by
                    by_cases c : i = q
                    · subst c; rw [e]; exact hy
                    · first | exact HNot.out i (by omega) | (intro hh; have := HNot.out i (by omega) hh.1; omega)))
                  have HY := hide (fun (y : Int × Int) (e : cw.getD q (0, 0) = y) (hy : (t : Int) - aj < y.2 ∧ fa < y.1) => (show oC ≤ j from HCj.out.2 ⟨q, hlq, by rw [e]; exact hy⟩))
                  generalize hy : cw.getD q (0, 0) = y at hcell hcell1
                  have HS2 := hide (HS.out y hy)
                  have HY2 := hide (HY.out y hy)
                  obtain ⟨y1, y2⟩ := y
                  simp only at hcell hcell1 HS2 HY2
                  clear hy hc1 HS HY
                  by_cases hyy : (t : Int) - aj < y2
                  · by_cases hyz : fa < y1
                    · have HYy := hide (HY2.out ⟨hyy, hyz⟩)
                      have hfz := s3.c.fz j
                      have hold := s3.c.at_ j hjl
                      go_wp2_with fail
                      go_meet
                      case rel => exact (s3.setC j).congr (fun i _ => rfl) (fun i _ => fl_set hlt HJn.out HYy.out i)
                    · have HSy := hide (HS2.out (fun h => hyz h.2))
                      go_wp2_with fail
                      go_roundg (cw.length - (q + 1))
                      case measure => rw [HGq.out]; omega
                      case rel => exact ⟨rfl, q + 1, rfl, by omega, by go_num, HSy.out⟩
                  · have HSy := hide (HS2.out (fun h => hyy h.1))
                    go_wp2_with fail
                    go_roundg (cw.length - (q + 1))
                    case measure => rw [HGq.out]; omega
                    case rel => exact ⟨rfl, q + 1, rfl, by omega, by go_num, HSy.out⟩
                · obtain rfl : q = cw.length := by omega
                  have HN := hide (show ¬ oC ≤ j from fun h => by
                    obtain ⟨i, hi, x⟩ := HCj.out.1 h
                    first | exact HNot.out i hi x | (have := HNot.out i hi x.1; omega))
                  go_wp2_with fail
                  go_meet
                  case rel => exact s3.congr (fun i _ => rfl) (fun i _ => fl_not hlt HJn.out HN.out i)
            case rest =>
              have s4 := hcut
              clear hcut s3 HCj
              have hcc := s4.r.c.at_ j (by omega)
              have huu := s4.u.at_ j hjl
              have hqq := s4.c.at_ j hjl
              have HAf := hide (show af j = lc.getD j 0 + fa from HStj.out)
              generalize lc.getD j 0 = cj at *
              have hku2 : ku ≤ 1000000 := by have := HKu.out; omega
              have hkc2 : kc ≤ 1000000 := by have := HKc.out; omega
              have hAf2 := hide (show af (li.length - (k + 1)) = fa + cj by rw [← HJn.out, HAf.out]; omega)
              clear HStj HAf
              by_cases hU : oU ≤ j
              · rw [show fl (li.length - (k + 1)) oU j = true by unfold fl; rw [decide_eq_true (by have := HJn.out; omega), decide_eq_true hU]; rfl] at huu
                by_cases hC : oC ≤ j
                · rw [show fl (li.length - (k + 1)) oC j = true by unfold fl; rw [decide_eq_true (by have := HJn.out; omega), decide_eq_true hC]; rfl] at hqq
                  go_wp2_with fail
                  go_roundg (li.length - (k + 1))
                  case measure => rw [HG2.out]; omega
                  case rel => exact ⟨k + 1, ku + 1, kc + 1, (j : Int) - 1, rfl, by omega, by go_num, by go_num, by rw [hAf2.out], by go_num, by have := HJ.out; omega, by have := HJn.out; have := HKu.out; omega, by have := HJn.out; have := HKc.out; omega, s4⟩
                · rw [show fl (li.length - (k + 1)) oC j = false by unfold fl; rw [decide_eq_false hC]; simp] at hqq
                  go_wp2_with fail
                  go_roundg (li.length - (k + 1))
                  case measure => rw [HG2.out]; omega
                  case rel => exact ⟨k + 1, ku + 1, kc, (j : Int) - 1, rfl, by omega, by go_num, by go_num, by rw [hAf2.out], by go_num, by have := HJ.out; omega, by have := HJn.out; have := HKu.out; omega, by have := HJn.out; have := HKc.out; omega, s4⟩
              · rw [show fl (li.length - (k + 1)) oU j = false by unfold fl; rw [decide_eq_false hU]; simp] at huu
                by_cases hC : oC ≤ j
                · rw [show fl (li.length - (k + 1)) oC j = true by unfold fl; rw [decide_eq_true (by have := HJn.out; omega), decide_eq_true hC]; rfl] at hqq
                  go_wp2_with fail
                  go_roundg (li.length - (k + 1))
                  case measure => rw [HG2.out]; omega
                  case rel => exact ⟨k + 1, ku, kc + 1, (j : Int) - 1, rfl, by omega, by go_num, by go_num, by rw [hAf2.out], by go_num, by have := HJ.out; omega, by have := HJn.out; have := HKu.out; omega, by have := HJn.out; have := HKc.out; omega, s4⟩
                · rw [show fl (li.length - (k + 1)) oC j = false by unfold fl; rw [decide_eq_false hC]; simp] at hqq
                  go_wp2_with fail
                  go_roundg (li.length - (k + 1))
                  case measure => rw [HG2.out]; omega
                  case rel => exact ⟨k + 1, ku, kc, (j : Int) - 1, rfl, by omega, by go_num, by go_num, by rw [hAf2.out], by go_num, by have := HJ.out; omega, by have := HJn.out; have := HKu.out; omega, by have := HJn.out; have := HKc.out; omega, s4⟩
        · obtain rfl : k = li.length := by omega
          obtain rfl : jj = -1 := by have := HJ.out; omega
          have HKu2 := hide (show ku = li.length - oU by have := HKu.out; omega)
          have HKc2 := hide (show kc = li.length - oC by have := HKc.out; omega)
          have hku2 : ku ≤ 1000000 := by have := HKu.out; omega
          have hkc2 : kc ≤ 1000000 := by have := HKc.out; omega
          have hlu : li.length = lu.length := by rw [HKI.out, HKU.out]; simp
          have hlc : li.length = lc.length := by rw [HKI.out, HKC.out]; simp; exact mg_len _ _ _ _
          have hlm : li.length = (mg Prod.snd sr sr.length).length := by rw [HKI.out]; simp
          have fI : ∀ i, i < li.length → li.getD i 0 = ((instM (mg Prod.snd sr sr.length) 0 i : Nat) : Int) := fun i hi => by
            have := HIn.out i hi
            rw [HKI.out, getD_fst] at this ⊢
            unfold instM; omega
          have fI2 : ∀ i, i < li.length → li.getD i 0 = ((instM (mg (fun _ => 1) sr sr.length) 0 i : Nat) : Int) := fun i hi => by
            have := HIn.out i hi
            rw [HKI.out, mg_fst Prod.snd (fun _ => 1) sr sr.length, getD_fst] at this ⊢
            unfold instM; omega
          have rI := s2.r.i.rd li.length rfl _ fI
          have rI2 := s2.r.i.rd li.length rfl _ fI2
          have rU := s2.r.u.rd li.length hlu (fun j => ((mg Prod.snd sr sr.length).getD j (0, 0)).2) (fun i _ => by rw [HKU.out, getD_snd])
          have rC := s2.r.c.rd li.length hlc (fun j => ((mg (fun _ => 1) sr sr.length).getD j (0, 0)).2) (fun i _ => by rw [HKC.out, getD_snd])
          have rfU := s2.u.rd oU (fun i _ => fl_all li.length oU i)
          have rfC := s2.c.rd oC (fun i _ => fl_all li.length oC i)
          have nI : ∀ j, j < li.length → instM (mg Prod.snd sr sr.length) 0 j ≤ t := fun j hj => by have := HIn.out j hj; have := fI j hj; omega
          have nI2 : ∀ j, j < li.length → instM (mg (fun _ => 1) sr sr.length) 0 j ≤ t := fun j hj => by have := HIn.out j hj; have := fI2 j hj; omega
          have mI : ∀ j, j + 1 < li.length → instM (mg Prod.snd sr sr.length) 0 j ≤ instM (mg Prod.snd sr sr.length) 0 (j + 1) := fun j hj => by have := HMo.out j hj; have := fI j (by omega); have := fI (j + 1) hj; omega
          have mI2 : ∀ j, j + 1 < li.length → instM (mg (fun _ => 1) sr sr.length) 0 j ≤ instM (mg (fun _ => 1) sr sr.length) 0 (j + 1) := fun j hj => by have := HMo.out j hj; have := fI2 j (by omega); have := fI2 (j + 1) hj; omega
          have hkl := hide (show (kI sr sr.length).length = li.length by rw [HKI.out]; rfl)
          have RS := hide (And.intro rI (And.intro rI2 (And.intro rU (And.intro rC (And.intro rfU rfC)))))
          have NI := hide (And.intro nI (And.intro nI2 (And.intro mI mI2)))
          have hbA := hb.later s2.b
          have hBel := s2.b
          have HBel := hide hBel
          have hszA := hBel.size
          clear rI rI2 rU rC rfU rfC nI nI2 mI mI2 fI fI2 hlu hlc hlm s2 hBel HJ HKu HKc HG2
          by_cases hz : ku + kc = 0
          · have HO := hide (show ModOut l sr t li.length oU oC = l ∧ decide ((li.length - oU) + (li.length - oC) ≠ 0) = false from ⟨by unfold ModOut; rw [if_pos (by have := HKu2.out; have := HKc2.out; omega)], decide_eq_false (by have := HKu2.out; have := HKc2.out; omega)⟩)
            have hzb : ((ku : Int) + (kc : Int) == 0) = true := by rw [beq_iff_eq]; omega
            clear hz
            go_wp2_with fail
            refine (clone_any _ l _ hbA (by omega)).mono ?_
            rintro e w9 ⟨v', rfl, o9, q9⟩
            go_wp2_with fail
            exact bodyPost_ret (v := .tuple #[v', .bool false]) (by simp [results, Try.results8, go_sem]) rfl ⟨v', by rw [hkl.out, HO.out.2], by rw [hkl.out, HO.out.1]; exact o9.lower hszA, HBel.out.trans (q9.mono hszA)⟩
          · have HO := hide (show ModOut l sr t li.length oU oC = l ++ hdr t ++ sect (instM (mg Prod.snd sr sr.length) 0) (fun j => ((mg Prod.snd sr sr.length).getD j (0, 0)).2) t oU (li.length - oU) ++ sect (instM (mg (fun _ => 1) sr sr.length) 0) (fun j => ((mg (fun _ => 1) sr sr.length).getD j (0, 0)).2) t oC (li.length - oC) ∧ decide ((li.length - oU) + (li.length - oC) ≠ 0) = true from ⟨by unfold ModOut; rw [if_neg (by have := HKu2.out; have := HKc2.out; omega)], decide_eq_true (by have := HKu2.out; have := HKc2.out; omega)⟩)
            have hzb : ((ku : Int) + (kc : Int) == 0) = false := by rw [beq_eq_false_iff_ne]; omega
            clear hz
            go_wp2_with fail
            refine (header_any _ l t ht _ hbA (by omega)).mono ?_
            rintro e w9 ⟨v9, rfl, o9, q9⟩
            have hdl := hdr_len t
            obtain ⟨rI, rI2, rU, rC, rfU, rfC⟩ := RS.out
            obtain ⟨nI, nI2, mI, mI2⟩ := NI.out
            have sec1 := section_any v9 _ _ _ (l ++ hdr t) li.length oU t _ _ WA w9 o9 q9 rI rU rfU oU1 (by omega) (by rw [List.length_append]; omega) nI mI ht
            have HSec1 := hide sec1
            rw [← HKu2.out] at HSec1
            have HR2 := hide (And.intro rI2 (And.intro rC (And.intro rfC (And.intro nI2 mI2))))
            clear sec1 rI rI2 rU rC rfU rfC nI nI2 mI mI2 RS NI o9 q9
            go_wp2_with fail
            refine HSec1.out.mono ?_
            rintro e w10 ⟨v10, rfl, o10, q10⟩
            obtain ⟨rI2, rC, rfC, nI2, mI2⟩ := HR2.out
            have hsl : (l ++ hdr t ++ sect (instM (mg Prod.snd sr sr.length) 0) (fun j => ((mg Prod.snd sr sr.length).getD j (0, 0)).2) t oU ku).length ≤ 10000000 := by
              have a := body_len (instM (mg Prod.snd sr sr.length) 0) (fun j => ((mg Prod.snd sr sr.length).getD j (0, 0)).2) t oU ku
              have b := uv_len 9 ((ku : Nat) : Int)
              have c : ku ≤ 100000 := by have := HKu2.out; omega
              unfold sect
              simp only [List.length_append]
              omega
            have sec2 := section_any v10 _ _ _ _ li.length oC t _ _ WA w10 o10 q10 rI2 rC rfC oC1 (by omega) hsl nI2 mI2 ht
            have HSec2 := hide sec2
            rw [← HKc2.out] at HSec2
            clear sec2 rI2 rC rfC nI2 mI2 HR2 o10 q10 hsl
            go_wp2_with fail
            refine HSec2.out.mono ?_
            rintro e w11 ⟨v11, rfl, o11, q11⟩
            rw [HKc2.out, HKu2.out] at o11
            go_wp2_with fail
            exact bodyPost_ret (v := .tuple #[v11, .bool true]) (by simp [results, Try.results8, go_sem]) rfl ⟨v11, by rw [hkl.out, HO.out.2], by rw [hkl.out, HO.out.1]; exact o11.lower hszA, HBel.out.trans (q11.mono hszA)⟩
end Go.Proofs.Qxb6628726a
