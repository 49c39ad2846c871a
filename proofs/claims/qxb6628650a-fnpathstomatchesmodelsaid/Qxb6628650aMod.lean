/-
  FnPathsToMatchesModel (seat b6628650a): the walk.
-/
import Derived.Test.Qxb6628650aCer
import Derived.Test.Qxb6628650aCho
import Derived.Test.Qxb6628650aNL
namespace Go.Proofs.Qxb6628650a
open Go.RowKit
set_option linter.unusedVariables false
attribute [local go_sem ↓] Go.wp_at_zero Go.wp_at_succ

theorem arcK_at (f t : Nat → Nat) : ∀ k j, j < k → arcK f t k (2 * j * 2) = (f j : Int) ∧ arcK f t k (2 * j * 2 + 1) = (t j : Int) ∧ arcK f t k ((2 * j + 1) * 2) = (t j : Int) ∧ arcK f t k ((2 * j + 1) * 2 + 1) = (f j : Int)
  | 0, j, h => by omega
  | k + 1, j, h => by
    simp only [arcK, updZ]
    by_cases c : j = k
    · subst c
      refine ⟨?_, ?_, ?_, ?_⟩
      · rw [if_neg (by omega), if_neg (by omega), if_neg (by omega), if_pos rfl]
      · rw [if_neg (by omega), if_neg (by omega), if_pos rfl]
      · rw [if_neg (by omega), if_pos rfl]
      · rw [if_pos rfl]
    · obtain ⟨a, b, d, e⟩ := arcK_at f t k j (by omega)
      refine ⟨?_, ?_, ?_, ?_⟩
      · rw [if_neg (by omega), if_neg (by omega), if_neg (by omega), if_neg (by omega)]; exact a
      · rw [if_neg (by omega), if_neg (by omega), if_neg (by omega), if_neg (by omega)]; exact b
      · rw [if_neg (by omega), if_neg (by omega), if_neg (by omega), if_neg (by omega)]; exact d
      · rw [if_neg (by omega), if_neg (by omega), if_neg (by omega), if_neg (by omega)]; exact e

theorem blF_no {c : Lk → Bool} {lab : Nat → ByteArray} {acc : Option Lk} {l : Lk} (h : c l = false) : blF c lab acc l = acc := by unfold blF; rw [h]; rfl
theorem blF_none {c : Lk → Bool} {lab : Nat → ByteArray} {l : Lk} (h : c l = true) : blF c lab none l = some l := by unfold blF; rw [h]; rfl
theorem blF_yes {c : Lk → Bool} {lab : Nat → ByteArray} {l b : Lk} (h : c l = true) (hn : nb lab l.1 b.1 = true) : blF c lab (some b) l = some l := by unfold blF; simp [h, hn]
theorem blF_keep {c : Lk → Bool} {lab : Nat → ByteArray} {l b : Lk} (h : c l = true) (hn : nb lab l.1 b.1 = false) : blF c lab (some b) l = some b := by unfold blF; simp [h, hn]
theorem blF_lt {c : Lk → Bool} {lab : Nat → ByteArray} {acc : Option Lk} {l r : Lk} {n : Nat} (ha : ∀ b, acc = some b → b.1 < n) (hl : l.1 < n) (h : blF c lab acc l = some r) : r.1 < n := by
  unfold blF at h
  split at h
  · cases acc with
    | none => cases h; exact hl
    | some b =>
      simp only at h
      split at h
      · cases h; exact hl
      · cases h; exact ha _ rfl
  · exact ha r h
theorem chK_lt {c : Lk → Bool} {lab : Nat → ByteArray} {f t x : Nat → Nat} {v n m : Nat} (hl : ∀ j, j < m → f j < n ∧ t j < n ∧ f j ≠ t j) : ∀ k, k ≤ m → ∀ r, chK c lab f t x v k = some r → r.1 < n
  | 0, _, r, h => by cases h
  | k + 1, hk, r, h => by
    have ih := chK_lt (c := c) (lab := lab) (x := x) (v := v) hl k (by omega)
    have hk' := hl k (by omega)
    simp only [chK] at h
    split at h
    · exact blF_lt ih hk'.2.1 h
    · split at h
      · exact blF_lt ih hk'.1 h
      · exact ih r h
def uL : Option Lk → Int
  | none => -1
  | some l => (l.1 : Int)

set_option maxRecDepth 100000 in
set_option maxHeartbeats 4000000 in
theorem model_any (v0 v1 v2 v3 : Value) (n m lt lk : Nat) (lab : Nat → ByteArray) (fr tt : Nat → Int) (x : Nat → Nat) (en : Int) (w : World) (h0 : Rd1 w v0 n (fun i => .string (lab i))) (h1 : Rd1 w v1 m (fun i => .int .i64 (fr i))) (h2 : Rd1 w v2 lt (fun i => .int .i64 (tt i))) (h3 : Rd1 w v3 lk (fun i => .float .f64 (x i)))
    (ln : n ≤ 9223372036854775807) (lm : m ≤ 9223372036854775807) (llt : lt ≤ 9223372036854775807) (llk : lk ≤ 9223372036854775807) (hs : ∀ i, i < n → (lab i).size ≤ 9223372036854775807) (h64 : ∀ i, i < lk → x i < 18446744073709551616) :
    Calls Try.prog 3 #[v0, v1, v2, v3, .int .i64 en] w fun e w' => e = .returned (.bool true) ∧ Below w.heap.size w w' := by
  obtain ⟨a0, c0, rfl, k0⟩ := id h0
  obtain ⟨a1, c1, rfl, k1⟩ := id h1
  obtain ⟨a2, c2, rfl, k2⟩ := id h2
  obtain ⟨a3, c3, rfl, k3⟩ := id h3
  clear k0 k1 k2 k3
  go_enter Try.func3, Try.ntmps3
  go_wp2_with fail
  refine (zz5_any _ _ _ _ n m lt lk _ _ _ lab en w h0 ln lm llt llk hs).mono ?_
  rintro e wz ⟨⟨b, rfl, hb⟩, rfl⟩
  clear ln lm llt llk hs
  cases b with
  | false => go_wp2_with fail; go_ret; exact ⟨rfl, Below.refl _ _⟩
  | true =>
    obtain ⟨ln, lm, llt, llk, hs⟩ := hb rfl
    clear hb
    have HS := hide hs
    have H64 := hide h64
    clear hs h64
    by_cases b0 : n ≤ 256
    case neg => go_wp2_with fail; go_ret; exact ⟨rfl, Below.refl _ _⟩
    by_cases b1 : m ≤ 4096
    case neg => go_wp2_with fail; go_ret; exact ⟨rfl, Below.refl _ _⟩
    by_cases b2 : lt ≤ 4096
    case neg => go_wp2_with fail; go_ret; exact ⟨rfl, Below.refl _ _⟩
    by_cases b3 : lk ≤ 4096
    case neg => go_wp2_with fail; go_ret; exact ⟨rfl, Below.refl _ _⟩
    have HFit := hide (fit_any _ n (m + lt + lk) lab wz h0 (by omega) (by omega) HS.out)
    go_wp2_with fail
    refine HFit.out.mono ?_
    rintro e wf ⟨⟨bf, rfl⟩, rfl⟩
    clear HFit
    cases bf with
    | false => go_wp2_with fail; go_ret; exact ⟨rfl, Below.refl _ _⟩
    | true =>
      go_wp2_with fail
      refine (prem_any _ _ _ _ n m lt lk lab fr tt x en wf h0 h1 h2 h3 ln lm llt llk HS.out H64.out).mono ?_
      rintro e w1 ⟨hp, q1⟩
      rcases hp with ⟨rfl, hp⟩ | rfl
      case inr => go_wp2_with fail; go_ret; exact ⟨rfl, q1⟩
      obtain rfl := hp.hlt
      obtain rfl := hp.hlk
      obtain ⟨f, t, s, rfl, hsn, hft, hl, hx⟩ := hp.nat
      have h0' := h0.later q1
      have h1' : Rd1 w1 _ lk (fun i => .int .i64 (f i : Int)) := (h1.later q1).congr (fun i hi => by rw [(hft i hi).1])
      have h2' : Rd1 w1 _ lk (fun i => .int .i64 (t i : Int)) := (h2.later q1).congr (fun i hi => by rw [(hft i hi).2])
      have h3' := h3.later q1
      have gr : Gr n s (adjK f t x lk) := adjK_gr hsn b0 b1 hl hx
      have sy : Sym n (adjK f t x lk) := adjK_sym hl
      have HMk := hide (model_km a1 a2 a3 c1 c2 c3 n lk s f t x w1 h1' h2' h3' b0 b1 hsn hl (fun j hj => Nat.lt_of_le_of_lt (hx j hj).2 (by decide)))
      clear hft h0 h1 h2 h3 hp H64
      go_wp2_with fail
      refine HMk.out.mono ?_
      rintro e wm ⟨gr', gd, st, rfl, ms, bf⟩
      clear HMk
      have h0m := h0'.later ms.b
      have h1m := h1'.later ms.b
      have h2m := h2'.later ms.b
      have h3m := h3'.later ms.b
      have HB := hide (build_any a0 c0 _ _ _ n lk lab f t x wm h0m h1m h2m h3m b0 b1 hl (fun i hi => by have := HS.out i hi; unfold maxLen; omega))
      go_wp2_with fail
      refine HB.out.mono ?_
      rintro e w2 ⟨T, gL, gA, vv, mp, rfl, bs, y0, y1, y2, y3⟩
      clear HB
      have tp := bs.l.tp y2
      have h0'' := h0m.later bs.b
      have lb : Lb w2 T n lab a0 c0 := ⟨y0, fun i hi => by obtain ⟨a, c, e, k⟩ := h0''; cases e; exact k i hi⟩
      have HP := hide (paths_any T n s (adjK f t x lk) gL n lab a0 c0 _ _ _ w2 tp lb y3 gr sy)
      go_wp2_with fail
      refine HP.out.mono ?_
      rintro e w3 ⟨P, kb, nx, rb, vs, km, S, rfl, df, rf, pt⟩
      clear HP
      have bb : Below wf.heap.size wf w3 := ((q1.trans (ms.b.mono q1.size)).trans (bs.b.mono (Nat.le_trans q1.size ms.b.size))).trans (pt.b.mono (Nat.le_trans (Nat.le_trans q1.size ms.b.size) bs.b.size))
      have bm : Below wm.heap.size wm w3 := bs.b.trans (pt.b.mono bs.b.size)
      have H0 := hide (h0m.later bm)
      have H1 := hide (h1m.later bm)
      have H2 := hide (h2m.later bm)
      have H3 := hide (h3m.later bm)
      have HR := hide (fun v (hv : v < n) => cell_later bm (ms.r.at_ v hv))
      have HDd := hide (fun v (hv : v < n) => cell_later bm (ms.d.at_ v hv))
      have HA := hide (fun j (hj : j < lk) => (⟨by rw [← (arcK_at f t lk j hj).1]; exact cell_later pt.b (bs.a.at_ _ (by omega)), by rw [← (arcK_at f t lk j hj).2.1]; exact cell_later pt.b (bs.a.at_ _ (by omega)), by rw [← (arcK_at f t lk j hj).2.2.1]; exact cell_later pt.b (bs.a.at_ _ (by omega)), by rw [← (arcK_at f t lk j hj).2.2.2]; exact cell_later pt.b (bs.a.at_ _ (by omega))⟩ : w3.cell? ⟨gA, 2 * j * 2, none⟩ = some (.int .i64 (f j : Int)) ∧ w3.cell? ⟨gA, 2 * j * 2 + 1, none⟩ = some (.int .i64 (t j : Int)) ∧ w3.cell? ⟨gA, (2 * j + 1) * 2, none⟩ = some (.int .i64 (t j : Int)) ∧ w3.cell? ⟨gA, (2 * j + 1) * 2 + 1, none⟩ = some (.int .i64 (f j : Int))))
      have HK := hide (fun v (hv : v < n) => pt.k.at_ v hv)
      have HXx := hide (fun v (hv : v < n) => pt.x.at_ v hv)
      have HPe := hide (pend_any P _ w3 pt.p0)
      have HPk := hide (pkm_any P _ n n w3 pt.p1)
      have HPn := hide (pnext_any P _ n n w3 pt.p2)
      have HPa := hide (parcs_any P _ _ _ w3 pt.p3)
      have HL := hide hl
      have HX := hide hx
      have HKl := hide (fun v (hv : v < n) => df.le v hv)
      have HM := hide (fun v (hv : v < n) => bf.is hl gr df v hv)
      have HMem := hide (fun v (hv : v < n) => df.mem v hv)
      have hsS : s ∈ S := (df.mem s hsn).2 (by rw [df.z]; decide)
      have HW := hide (fun v (hv : v ∈ S) (hs : v ≠ s) => want_is (lab := lab) bf hl gr df hv hs)
      have HN := hide (fun v (hv : ¬ (v ∈ S ∧ v ≠ s)) => (next_is (lab := lab) hl gr df v).1 hv)
      have HDl := hide (ms.le)
      clear bs y0 y1 y2 y3 tp h0' h0'' h1' h2' h3' h0m h1m h2m h3m lb df hl hx gr sy pt q1 ms bm bf
      generalize nxK (adjK f t x lk) km S lab S.length = nf at *
      have hss : ((s : Int) != (s : Int)) = false := by simp
      have hnn : ((n : Int) != (n : Int)) = false := by simp
      have h2l : ((2 * (lk : Int)) != (2 * (lk : Int))) = false := by simp
      have h2l' : (((2 * lk : Nat) : Int) != (2 * (lk : Int))) = false := by simp
      have hwl : IntKind.i64.wrap (2 * (lk : Int)) = 2 * (lk : Int) := by rw [IntKind.wrap_i64]; omega
      go_wp2_with fail
      refine HPe.out.mono ?_
      rintro e wk ⟨rfl, rfl⟩
      clear HPe
      go_wp2_with fail
      refine HPk.out.mono ?_
      rintro e wk2 ⟨rfl, rfl⟩
      clear HPk
      go_wp2_with fail
      refine HPn.out.mono ?_
      rintro e wk3 ⟨rfl, rfl⟩
      clear HPn
      go_wp2_with fail
      refine HPa.out.mono ?_
      rintro e wn ⟨rfl, rfl⟩
      clear HPa
      go_upto_block 0 with fail
      go_cut [20] (fun _ wx => Below wn.heap.size wn wx)
      case first =>
        go_wp2_with fail
        go_loopg [20] lk (fun gg i wr => ∃ k : Nat, gg = lk - k ∧ k ≤ lk ∧ i = .int .i64 k ∧ Below wn.heap.size wn wr)
        case atStart => exact ⟨0, by omega, by omega, rfl, Below.refl _ _⟩
        case round =>
          obtain ⟨k, hgg, hk, rfl, br⟩ := hrel
          have HG := hide hgg
          clear hgg
          by_cases hlt : k < lk
          · obtain ⟨_, _, e1, k1⟩ := H1.out
            obtain ⟨_, _, e2, k2⟩ := H2.out
            cases e1; cases e2
            obtain ⟨x1, o1, rfl, hx1, y1⟩ := k1 k hlt
            obtain ⟨x2, o2, rfl, hx2, y2⟩ := k2 k hlt
            clear k1 k2
            have z1 : wr.cell? ⟨x1, o1 + k, none⟩ = some (.int .i64 (f k : Int)) := cell_later br y1
            have z2 : wr.cell? ⟨x2, o2 + k, none⟩ = some (.int .i64 (t k : Int)) := cell_later br y2
            obtain ⟨p1, p2, p3, p4⟩ := HA.out k hlt
            have c1' := cell_later br p1
            have c2' := cell_later br p2
            have c3' := cell_later br p3
            have c4' := cell_later br p4
            obtain ⟨l1, l2, l3⟩ := HL.out k hlt
            generalize f k = a at *
            generalize t k = b at *
            have i1 : (0 : Int) ≤ (k : Int) := by omega
            have i2 : (k : Int) < (lk : Int) := by omega
            have haa : ((a : Int) != (a : Int)) = false := by simp
            have hbb : ((b : Int) != (b : Int)) = false := by simp
            have hwk : IntKind.i64.wrap (2 * (k : Int)) = 2 * (k : Int) := by rw [IntKind.wrap_i64]; omega
            have hwk2 : IntKind.i64.wrap (2 * (k : Int) + 1) = 2 * (k : Int) + 1 := by rw [IntKind.wrap_i64]; omega
            clear y1 y2 p1 p2 p3 p4 hnn h2l h2l' hss hwl
            go_upto_region 26 with fail
            go_quiet (fail)
            go_upto_region 28 with fail
            go_quiet (fail)
            go_wp2_with fail
            go_roundg (lk - (k + 1))
            case measure => rw [HG.out]; omega
            case rel => exact ⟨k + 1, rfl, by omega, by go_num, below_drewN br _⟩
          · obtain rfl : k = lk := by omega
            go_wp2_with fail
            go_meet
            case rel => exact br
      case rest =>
        obtain ⟨WC, hWC⟩ : ∃ WC, WC = wc := ⟨_, rfl⟩
        subst hWC
        have bC := bb.trans (hcut.mono bb.size)
        have H0 := hide (H0.out.later hcut)
        have H1 := hide (H1.out.later hcut)
        have H2 := hide (H2.out.later hcut)
        have H3 := hide (H3.out.later hcut)
        have HR := hide (fun v (hv : v < n) => cell_later hcut (HR.out v hv))
        have HDd := hide (fun v (hv : v < n) => cell_later hcut (HDd.out v hv))
        have HK := hide (fun v (hv : v < n) => cell_later hcut (HK.out v hv))
        have HXx := hide (fun v (hv : v < n) => cell_later hcut (HXx.out v hv))
        clear hcut bb HA hnn h2l h2l' hss hwl
        go_wp2_with fail
        go_loopg [21] n (fun gg i wr => ∃ k : Nat, gg = n - k ∧ k ≤ n ∧ i = .int .i64 k ∧ Below WC.heap.size WC wr)
        case atStart => exact ⟨0, by omega, by omega, rfl, Below.refl _ _⟩
        case round =>
          obtain ⟨v, hgg, hk, rfl, br⟩ := hrel
          have HG := hide hgg
          clear hgg
          by_cases hlt : v < n
          · have cr := cell_later br (HR.out v hlt)
            have cd := cell_later br (HDd.out v hlt)
            have ck := cell_later br (HK.out v hlt)
            have cx := cell_later br (HXx.out v hlt)
            have lv := HKl.out v hlt
            obtain ⟨m1, m2⟩ := HM.out v hlt
            have i1 : (0 : Int) ≤ (v : Int) := by omega
            have i2 : (v : Int) < (n : Int) := by omega
            by_cases hvS : v ∈ S
            · have hr := m1.2 hvS
              have hd := m2 hvS
              rw [hr] at cr
              rw [hd] at cd
              have heq : (FloatKind.f64.format.order (km v) (km v) != some .eq) = false := by
                have := ord_eq lv lv
                rw [decide_eq_true rfl] at this
                simp only [bne, Bool.not_eq_false']; exact this
              by_cases hvs : v = s
              · have hns : nf v = -1 := HN.out v (fun h => h.2 hvs)
                have hne : ((v : Int) != (s : Int)) = false := by simp [hvs]
                rw [hns] at cx
                clear hvs hns m1 m2 hr hd lv
                go_upto_region 34 with fail
                go_quiet (fail)
                go_wp2_with fail
                go_roundg (n - (v + 1))
                case measure => rw [HG.out]; omega
                case rel => exact ⟨v + 1, rfl, by omega, by go_num, below_drewN br _⟩
              · have hne : ((v : Int) != (s : Int)) = true := by simp; omega
                rw [HW.out v hvS hvs] at cx
                have HD := hide hd
                clear m1 m2 hr hd
                -- CHOICE
                have hdl := HDl.out v
                have HDv := hide (HDd.out v hlt)
                go_upto_region 34 with fail
                go_quiet (fail)
                go_upto_block 4 with fail
                generalize HWr : wr.drewN nq = WR at *
                have brR : Below WC.heap.size WC WR := by rw [← HWr]; exact below_drewN br _
                have cxR := cell_later brR (HXx.out v hlt)
                rw [HW.out v hvS hvs] at cxR
                clear HWr cr cd ck cx br heq
                go_cut [23, 24, 25] (fun _ ba _ wx => ba = .int .i64 (wantL (chK (mCnd st v) lab f t x v lk)) ∧ Below WC.heap.size WC wx)
                case first =>
                  go_wp2_with fail
                  go_loopg [23, 24, 25] lk (fun gg bu ba j wx => ∃ k : Nat, gg = lk - k ∧ k ≤ lk ∧ j = .int .i64 k ∧ bu = .int .i64 (uL (chK (mCnd st v) lab f t x v k)) ∧ ba = .int .i64 (wantL (chK (mCnd st v) lab f t x v k)) ∧ Below WC.heap.size WC wx)
                  case atStart => exact ⟨0, by omega, by omega, rfl, rfl, rfl, brR⟩
                  case round =>
                    obtain ⟨k, hgg, hk', rfl, rfl, rfl, br⟩ := hrel
                    have HG2 := hide hgg
                    clear hgg brR cxR
                    by_cases hkl : k < lk
                    · obtain ⟨_, _, e1, k1⟩ := H1.out
                      obtain ⟨_, _, e2, k2⟩ := H2.out
                      obtain ⟨_, _, e3, k3⟩ := H3.out
                      cases e1; cases e2; cases e3
                      obtain ⟨x1, o1, rfl, hx1, y1⟩ := k1 k hkl
                      obtain ⟨x2, o2, rfl, hx2, y2⟩ := k2 k hkl
                      obtain ⟨x3, o3, rfl, hx3, y3⟩ := k3 k hkl
                      clear k1 k2 k3
                      have z1 : wr.cell? ⟨x1, o1 + k, none⟩ = some (.int .i64 (f k : Int)) := cell_later br y1
                      have z2 : wr.cell? ⟨x2, o2 + k, none⟩ = some (.int .i64 (t k : Int)) := cell_later br y2
                      have z3 : wr.cell? ⟨x3, o3 + k, none⟩ = some (.float .f64 (x k)) := cell_later br y3
                      obtain ⟨l1, l2, l3⟩ := HL.out k hkl
                      have hxk : x k < infW := Nat.lt_of_le_of_lt (HX.out k hkl).2 (by decide)
                      have HSt : Hid (chK (mCnd st v) lab f t x v (k + 1) = if f k = v then blF (mCnd st v) lab (chK (mCnd st v) lab f t x v k) (t k, x k, 2 * k) else if t k = v then blF (mCnd st v) lab (chK (mCnd st v) lab f t x v k) (f k, x k, 2 * k + 1) else chK (mCnd st v) lab f t x v k) := hide rfl
                      have hacc := chK_lt (c := mCnd st v) (lab := lab) (x := x) (v := v) HL.out k hk'
                      have i3 : (0 : Int) ≤ (k : Int) := by omega
                      have i4 : (k : Int) < (lk : Int) := by omega
                      have hwk : IntKind.i64.wrap (2 * (k : Int)) = 2 * (k : Int) := by rw [IntKind.wrap_i64]; omega
                      have hwk2 : IntKind.i64.wrap (2 * (k : Int) + 1) = 2 * (k : Int) + 1 := by rw [IntKind.wrap_i64]; omega
                      generalize chK (mCnd st v) lab f t x v k = acc at *
                      generalize f k = a at *
                      generalize t k = b at *
                      generalize x k = y at *
                      clear y1 y2 y3
                      by_cases hno : a ≠ v ∧ b ≠ v
                      · have e1 : ((a : Int) == (v : Int)) = false := by simp; omega
                        have e2 : ((b : Int) == (v : Int)) = false := by simp; omega
                        have HS2 := hide (show chK (mCnd st v) lab f t x v (k + 1) = acc by rw [HSt.out, if_neg hno.1, if_neg hno.2])
                        clear hno
                        go_wp2_with fail
                        go_roundg (lk - (k + 1))
                        case measure => rw [HG2.out]; omega
                        case rel => exact ⟨k + 1, rfl, by omega, by go_num, by rw [HS2.out], by rw [HS2.out], br⟩
                      · obtain ⟨u, A, hu, hS2, hcase⟩ : ∃ u A : Nat, u < n ∧ chK (mCnd st v) lab f t x v (k + 1) = blF (mCnd st v) lab acc (u, y, A) ∧ ((a = v ∧ u = b ∧ A = 2 * k) ∨ (a ≠ v ∧ b = v ∧ u = a ∧ A = 2 * k + 1)) := by
                          by_cases c1 : a = v
                          · exact ⟨b, 2 * k, l2, by rw [HSt.out, if_pos c1], .inl ⟨c1, rfl, rfl⟩⟩
                          · by_cases c2 : b = v
                            · exact ⟨a, 2 * k + 1, l1, by rw [HSt.out, if_neg c1, if_pos c2], .inr ⟨c1, c2, rfl, rfl⟩⟩
                            · exact absurd ⟨c1, c2⟩ hno
                        have HS2 := hide hS2
                        clear hS2 HSt hno
                        go_upto_if 219 with fail
                        go_cut [26, 27] (fun pu pa wx => pu = .int .i64 (u : Int) ∧ pa = .int .i64 (A : Int) ∧ wr = wx)
                        case first =>
                          rcases hcase with ⟨c1, rfl, rfl⟩ | ⟨c1, c2, rfl, rfl⟩
                          · have e1 : ((a : Int) == (v : Int)) = true := by simp; omega
                            clear c1
                            go_upto_if 219 with fail
                            go_wp2_with fail
                            go_meet
                            case rel => exact ⟨rfl, by go_num, rfl⟩
                          · have e1 : ((u : Int) == (v : Int)) = false := by simp; omega
                            have e2 : ((b : Int) == (v : Int)) = true := by simp; omega
                            clear c1 c2
                            go_upto_if 219 with fail
                            go_wp2_with fail
                            go_meet
                            case rel => exact ⟨rfl, by go_num, rfl⟩
                        case rest =>
                          obtain ⟨rfl, rfl, rfl⟩ := hcut
                          have ru := cell_later br (HR.out u hu)
                          have du := cell_later br (HDd.out u hu)
                          have dv := cell_later br HDv.out
                          have ad := fun (wx : World) => run_float_arith (P := Try.prog) wx .add 41 .f64 (st.d u) y (addF (st.d u) y) (add_le (HDl.out u) hxk)
                          have la := addF_le (st.d u) y
                          have HC : Hid (mCnd st v (u, y, A) = (st.reach u && decide (addF (st.d u) y = st.d v))) := hide rfl
                          have HNo : Hid (mCnd st v (u, y, A) = false → chK (mCnd st v) lab f t x v (k + 1) = acc) := hide (fun h => by rw [HS2.out, blF_no h])
                          have HNone : Hid (mCnd st v (u, y, A) = true → acc = none → chK (mCnd st v) lab f t x v (k + 1) = some (u, y, A)) := hide (fun h e => by rw [HS2.out, e, blF_none h])
                          have HYes : Hid (mCnd st v (u, y, A) = true → ∀ q, acc = some q → nb lab u q.1 = true → chK (mCnd st v) lab f t x v (k + 1) = some (u, y, A)) := hide (fun h q e hn => by rw [HS2.out, e, blF_yes h hn])
                          have HKeep : Hid (mCnd st v (u, y, A) = true → ∀ q, acc = some q → nb lab u q.1 = false → chK (mCnd st v) lab f t x v (k + 1) = some q) := hide (fun h q e hn => by rw [HS2.out, e, blF_keep h hn])
                          have j1 : (0 : Int) ≤ (u : Int) := by omega
                          have j2 : (u : Int) < (n : Int) := by omega
                          clear HS2 z1 z2 hcase l1 l2 l3 hwk hwk2
                          generalize mCnd st v (u, y, A) = cc at *
                          go_upto_region 53 with fail
                          go_cut [259] (fun bb wx => bb = .bool (!cc) ∧ Below wr.heap.size wr wx)
                          case first =>
                            generalize st.reach u = pu at *
                            generalize addF (st.d u) y = sa at *
                            generalize st.d u = du' at *
                            generalize st.d v = dv' at *
                            cases pu with
                            | false =>
                              obtain rfl : cc = false := HC.out
                              go_quiet (fail)
                              go_wp2_with fail
                              go_meet
                              case rel => exact ⟨rfl, below_drewN (Below.refl _ _) _⟩
                            | true =>
                              by_cases he : sa = dv'
                              · obtain rfl : cc = true := by rw [HC.out, decide_eq_true he]; rfl
                                have ho : (FloatKind.f64.format.order sa dv' != some .eq) = false := by
                                  have := ord_eq la hdl
                                  rw [decide_eq_true he] at this
                                  simp only [bne, Bool.not_eq_false']; exact this
                                clear he
                                go_quiet (fail)
                                go_wp2_with fail
                                go_meet
                                case rel => exact ⟨rfl, below_drewN (Below.refl _ _) _⟩
                              · obtain rfl : cc = false := by rw [HC.out, decide_eq_false he]; rfl
                                have ho : (FloatKind.f64.format.order sa dv' != some .eq) = true := by
                                  have := ord_eq la hdl
                                  rw [decide_eq_false he] at this
                                  simp only [bne, Bool.not_eq_true']; exact this
                                clear he
                                go_quiet (fail)
                                go_wp2_with fail
                                go_meet
                                case rel => exact ⟨rfl, below_drewN (Below.refl _ _) _⟩
                          case rest =>
                            obtain ⟨rfl, hbd⟩ := hcut
                            have br2 := br.trans (hbd.mono br.size)
                            clear ru du dv z3 ad la HC hbd br
                            cases cc with
                            | false =>
                              have HS3 := hide (HNo.out rfl)
                              clear HNo HNone HYes HKeep
                              go_upto_if 259 with fail
                              go_wp2_with fail
                              go_roundg (lk - (k + 1))
                              case measure => rw [HG2.out]; omega
                              case rel => exact ⟨k + 1, rfl, by omega, by go_num, by rw [HS3.out], by rw [HS3.out], br2⟩
                            | true =>
                              cases acc with
                              | none =>
                                have HS3 := hide (HNone.out rfl rfl)
                                clear HNo HNone HYes HKeep hacc
                                have hu0 : uL none = -1 := rfl
                                go_upto_if 259 with fail
                                go_wp2_with fail
                                go_roundg (lk - (k + 1))
                                case measure => rw [HG2.out]; omega
                                case rel => exact ⟨k + 1, rfl, by omega, by go_num, by rw [HS3.out]; rfl, by rw [HS3.out]; rfl, br2⟩
                              | some q =>
                                have hq := hacc q rfl
                                have HY := hide (HYes.out rfl q rfl)
                                have HKp := hide (HKeep.out rfl q rfl)
                                have hu0 : uL (some q) = (q.1 : Int) := rfl
                                have hq0 : ¬ (q.1 : Int) < 0 := by omega
                                have HNl := hide (nless_any _ n lab u q.1 wc (H0.out.later br2) hu hq b0 (HS.out u hu) (HS.out q.1 hq))
                                clear HNo HNone HYes HKeep hacc
                                cases hnb : nb lab u q.1
                                · have HS3 := hide (HKp.out hnb)
                                  clear HY HKp
                                  go_upto_if 259 with fail
                                  go_wp2_with (first | (go_at_call 15; refine HNl.out.mono ?_; rintro e wl ⟨rfl, hbl⟩) | fail)
                                  go_roundg (lk - (k + 1))
                                  case measure => rw [HG2.out]; omega
                                  case rel => exact ⟨k + 1, rfl, by omega, by go_num, by rw [HS3.out]; rfl, by rw [HS3.out], br2.trans (hbl.mono br2.size)⟩
                                · have HS3 := hide (HY.out hnb)
                                  clear HY HKp
                                  go_upto_if 259 with fail
                                  go_wp2_with (first | (go_at_call 15; refine HNl.out.mono ?_; rintro e wl ⟨rfl, hbl⟩) | fail)
                                  go_roundg (lk - (k + 1))
                                  case measure => rw [HG2.out]; omega
                                  case rel => exact ⟨k + 1, rfl, by omega, by go_num, by rw [HS3.out]; rfl, by rw [HS3.out]; rfl, br2.trans (hbl.mono br2.size)⟩
                    · obtain rfl : k = lk := by omega
                      go_wp2_with fail
                      go_meet
                      case rel => exact ⟨rfl, br⟩
                case rest =>
                  obtain ⟨rfl, br2⟩ := hcut
                  have cx2 := cell_later br2 (HXx.out v hlt)
                  rw [HW.out v hvS hvs] at cx2
                  generalize wantL (chK (mCnd st v) lab f t x v lk) = W at *
                  have hWW : (W != W) = false := by simp
                  go_wp2_with fail
                  go_roundg (n - (v + 1))
                  case measure => rw [HG.out]; omega
                  case rel => exact ⟨v + 1, rfl, by omega, by go_num, br2⟩
                -- ENDCHOICE
            · have hr : st.reach v = false := by
                cases h : st.reach v
                · rfl
                · exact absurd (m1.1 h) hvS
              have hns : nf v = -1 := HN.out v (fun h => hvS h.1)
              have hne : ((v : Int) != (s : Int)) = true := by
                have : v ≠ s := fun e => hvS (by rw [e]; exact hsS)
                simp; omega
              have og : (FloatKind.f64.format.order (km v) 9218868437227405311 == some .gt) = true := by
                rw [show FloatKind.f64.format.order (km v) 9218868437227405311 = Ieee.double.order (km v) 9218868437227405311 from rfl, ord_gt lv (by decide)]
                exact decide_eq_true (by have : ¬ km v < 9218868437227405312 := fun h => hvS ((HMem.out v hlt).2 h); omega)
              rw [hr] at cr
              rw [hns] at cx
              clear m1 m2 hr hns lv
              go_wp2_with fail
              go_roundg (n - (v + 1))
              case measure => rw [HG.out]; omega
              case rel => exact ⟨v + 1, rfl, by omega, by go_num, br⟩
          · obtain rfl : v = n := by omega
            go_wp2_with fail
            go_ret
            exact ⟨rfl, bC.trans (br.mono bC.size)⟩
end Go.Proofs.Qxb6628650a
