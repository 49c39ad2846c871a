/-
  FnPathsToCertificate (seat b6628650a): the walk.
-/
import Derived.Test.Qxb6628650aBldD
import Derived.Test.Qxb6628650aCrt
import Derived.Test.Qxb6628650aZZ
namespace Go.Proofs.Qxb6628650a
open Go.RowKit
set_option linter.unusedVariables false
attribute [local go_sem ↓] Go.wp_at_zero Go.wp_at_succ

theorem Rd1.congr {w : World} {v : Value} {n : Nat} {f g : Nat → Value} (h : Rd1 w v n f) (e : ∀ i, i < n → f i = g i) : Rd1 w v n g := by
  obtain ⟨a, cap, e1, k⟩ := h
  refine ⟨a, cap, e1, fun i hi => ?_⟩
  rw [← e i hi]
  exact k i hi

/-- The lens' slice, emptied. -/
theorem own_zero {w : World} {B e g n cap : Nat} {xs : List Value} (h : w.ownsRow B e 1 (.slice (some ⟨g, 0, none⟩) n cap) n xs) : w.ownsRow B e 1 (.slice (some ⟨g, 0, none⟩) 0 cap) 0 [] := by
  refine ⟨rfl, ?_⟩
  rcases h.2 with ⟨a, _⟩ | ⟨g', cap', cur, a, b, c, d, e1, f, _⟩
  · cases a
  · cases a
    exact .inr ⟨g, cap, cur, rfl, b, c, Nat.zero_le _, e1, f, by simp⟩

theorem Pr.nat {n m lt lk : Nat} {fr tt : Nat → Int} {km : Nat → Nat} {en : Int} (h : Pr n m lt lk fr tt km en) : ∃ (f t : Nat → Nat) (s : Nat), en = s ∧ s < n ∧ (∀ j, j < m → fr j = (f j : Int) ∧ tt j = (t j : Int)) ∧ (∀ j, j < m → f j < n ∧ t j < n ∧ f j ≠ t j) ∧ (∀ j, j < m → minW ≤ km j ∧ km j ≤ maxW) := by
  have e0 := h.e0
  have e1 := h.e1
  refine ⟨fun j => (fr j).toNat, fun j => (tt j).toNat, en.toNat, by omega, by omega, fun j hj => ?_, fun j hj => ?_, fun j hj => ?_⟩
  · have := h.l j hj; constructor <;> dsimp only <;> omega
  · have := h.l j hj; dsimp only; omega
  · have := h.l j hj; exact this.2.2.2.2.2

theorem leq_yes {a b : Nat} (ha : a ≤ infW) (hb : b ≤ infW) (h : a ≤ b) : (FloatKind.f64.format.order a b == some .lt || FloatKind.f64.format.order a b == some .eq) = true := by
  show (Ieee.double.order a b == some .lt || Ieee.double.order a b == some .eq) = true
  rw [ord_lt ha hb, ord_eq ha hb, Bool.or_eq_true, decide_eq_true_iff, decide_eq_true_iff]
  omega
theorem leq_no {a b : Nat} (ha : a ≤ infW) (hb : b ≤ infW) (h : b < a) : (FloatKind.f64.format.order a b == some .lt || FloatKind.f64.format.order a b == some .eq) = false := by
  show (Ieee.double.order a b == some .lt || Ieee.double.order a b == some .eq) = false
  rw [ord_lt ha hb, ord_eq ha hb, Bool.or_eq_false_iff, decide_eq_false_iff_not, decide_eq_false_iff_not]
  omega
theorem addF_inf (x y : Nat) : addF x y ≤ infW := Nat.min_le_right _ _

/-- What the walk needs of the paths. -/
structure CT (w W : World) (B n s kb nx : Nat) (km : Nat → Nat) (nf : Nat → Int) : Prop where
  k : RF W B kb n km
  x : RZ W B nx n nf
  b : Below w.heap.size w W

set_option maxRecDepth 100000 in
set_option maxHeartbeats 4000000 in
theorem cert_any (v0 v1 v2 v3 : Value) (n m lt lk : Nat) (lab : Nat → ByteArray) (fr tt : Nat → Int) (x : Nat → Nat) (en : Int) (w : World) (h0 : Rd1 w v0 n (fun i => .string (lab i))) (h1 : Rd1 w v1 m (fun i => .int .i64 (fr i))) (h2 : Rd1 w v2 lt (fun i => .int .i64 (tt i))) (h3 : Rd1 w v3 lk (fun i => .float .f64 (x i)))
    (ln : n ≤ 9223372036854775807) (lm : m ≤ 9223372036854775807) (llt : lt ≤ 9223372036854775807) (llk : lk ≤ 9223372036854775807) (hs : ∀ i, i < n → (lab i).size ≤ 9223372036854775807) (h64 : ∀ i, i < lk → x i < 18446744073709551616) :
    Calls Try.prog 4 #[v0, v1, v2, v3, .int .i64 en] w fun e w' => e = .returned (.bool true) ∧ Below w.heap.size w w' := by
  obtain ⟨a0, c0, rfl, k0⟩ := id h0
  obtain ⟨a1, c1, rfl, k1⟩ := id h1
  obtain ⟨a2, c2, rfl, k2⟩ := id h2
  obtain ⟨a3, c3, rfl, k3⟩ := id h3
  obtain ⟨i41, hi41, hz410, hz411, hz412⟩ := info_parts info41
  clear k0 k1 k2 k3
  go_enter Try.func4, Try.ntmps4
  go_wp2_with fail
  refine (zz16_any _ _ _ _ n m lt lk _ _ _ lab en w h0 ln lm llt llk hs).mono ?_
  rintro e wz ⟨⟨b, rfl, hb⟩, rfl⟩
  clear ln lm llt llk hs
  cases b with
  | false => go_wp2_with fail; go_ret; exact ⟨rfl, Below.refl _ _⟩
  | true =>
    obtain ⟨ln, lm, llt, llk, hs⟩ := hb rfl
    clear hb
    have HS := hide hs
    have H64 := hide h64
    clear hs h64
    by_cases b0 : n ≤ 256
    case neg => go_wp2_with fail; go_ret; exact ⟨rfl, Below.refl _ _⟩
    by_cases b1 : m ≤ 4096
    case neg => go_wp2_with fail; go_ret; exact ⟨rfl, Below.refl _ _⟩
    by_cases b2 : lt ≤ 4096
    case neg => go_wp2_with fail; go_ret; exact ⟨rfl, Below.refl _ _⟩
    by_cases b3 : lk ≤ 4096
    case neg => go_wp2_with fail; go_ret; exact ⟨rfl, Below.refl _ _⟩
    have HFit := hide (fit_any _ n (m + lt + lk) lab wz h0 (by omega) (by omega) HS.out)
    go_wp2_with fail
    refine HFit.out.mono ?_
    rintro e wf ⟨⟨bf, rfl⟩, rfl⟩
    clear HFit
    cases bf with
    | false => go_wp2_with fail; go_ret; exact ⟨rfl, Below.refl _ _⟩
    | true =>
      go_wp2_with fail
      refine (prem_any _ _ _ _ n m lt lk lab fr tt x en wf h0 h1 h2 h3 ln lm llt llk HS.out H64.out).mono ?_
      rintro e w1 ⟨hp, q1⟩
      rcases hp with ⟨rfl, hp⟩ | rfl
      case inr => go_wp2_with fail; go_ret; exact ⟨rfl, q1⟩
      obtain rfl := hp.hlt
      obtain rfl := hp.hlk
      obtain ⟨f, t, s, rfl, hsn, hft, hl, hx⟩ := hp.nat
      have h0' := h0.later q1
      have h1' : Rd1 w1 _ lk (fun i => .int .i64 (f i : Int)) := (h1.later q1).congr (fun i hi => by rw [(hft i hi).1])
      have h2' : Rd1 w1 _ lk (fun i => .int .i64 (t i : Int)) := (h2.later q1).congr (fun i hi => by rw [(hft i hi).2])
      have h3' := h3.later q1
      have gr : Gr n s (adjK f t x lk) := adjK_gr hsn b0 b1 hl hx
      have sy : Sym n (adjK f t x lk) := adjK_sym hl
      have HB := hide (build_any a0 c0 _ _ _ n lk lab f t x w1 h0' h1' h2' h3' b0 b1 hl (fun i hi => by have := HS.out i hi; unfold maxLen; omega))
      clear hft h0 h1 h2 h3 hp H64
      go_wp2_with fail
      refine HB.out.mono ?_
      rintro e w2 ⟨T, gL, gA, vv, mp, rfl, bs, y0, y1, y2, y3⟩
      clear HB
      have tp := bs.l.tp y2
      have h0'' := h0'.later bs.b
      have lb : Lb w2 T n lab a0 c0 := ⟨y0, fun i hi => by obtain ⟨a, c, e, k⟩ := h0''; cases e; exact k i hi⟩
      have HP := hide (paths_any T n s (adjK f t x lk) gL n lab a0 c0 _ _ _ w2 tp lb y3 gr sy)
      go_wp2_with fail
      refine HP.out.mono ?_
      rintro e w3 ⟨P, kb, nx, rb, vs, km, S, rfl, df, rf, pt⟩
      clear HP
      have ct : CT wf w3 w2.heap.size n s kb nx km (nxK (adjK f t x lk) km S lab S.length) := ⟨pt.k, pt.x, (q1.trans (bs.b.mono q1.size)).trans (pt.b.mono (Nat.le_trans q1.size bs.b.size))⟩
      have H1 := hide (h1'.later (bs.b.trans (pt.b.mono bs.b.size)))
      have H2 := hide (h2'.later (bs.b.trans (pt.b.mono bs.b.size)))
      have H3 := hide (h3'.later (bs.b.trans (pt.b.mono bs.b.size)))
      have p1 := pt.p1
      have p2 := pt.p2
      have HPk := hide (pkm_any P _ n n w3 p1)
      have HPn := hide (pnext_any P _ n n w3 p2)
      have HD := hide df
      have HL := hide hl
      have HX := hide hx
      have HGr := hide gr
      have HN := hide (fun v => next_is (lab := lab) hl gr df v)
      have HLk := hide (fun i hi => links_ok hl gr df i hi)
      have hz : km s = 0 := df.z
      have hns : nxK (adjK f t x lk) km S lab S.length s = -1 := (HN.out s).1 (fun h => h.2 rfl)
      have cks := ct.k.at_ s hsn
      have cxs := ct.x.at_ s hsn
      clear bs y0 y1 y2 y3 tp h0' h0'' h1' h2' h3' lb df hl hx gr sy pt q1 p1 p2 HS
      go_wp2_with fail
      refine HPk.out.mono ?_
      rintro e wk ⟨rfl, rfl⟩
      clear HPk
      go_wp2_with fail
      refine HPn.out.mono ?_
      rintro e wn ⟨rfl, rfl⟩
      clear HPn
      rw [hz] at cks
      rw [hns] at cxs
      generalize nxK (adjK f t x lk) km S lab S.length = nf at *
      have hnn : ((n : Int) != (n : Int)) = false := by simp
      have ho0 : (FloatKind.f64.format.order 0 0 != some .eq) = false := by decide
      have i1 : (0 : Int) ≤ (s : Int) := by omega
      have i2 : (s : Int) < (n : Int) := by omega
      go_upto_block 0 with fail
      clear ho0 cks cxs hns i1 i2
      go_cut [17] (fun _ wx => Below wn.heap.size wn wx)
      case first =>
        go_wp2_with fail
        go_loopg [17] lk (fun gg i wr => ∃ k : Nat, gg = lk - k ∧ k ≤ lk ∧ i = .int .i64 k ∧ Below wn.heap.size wn wr)
        case atStart => exact ⟨0, by omega, by omega, rfl, Below.refl _ _⟩
        case round =>
          obtain ⟨k, hgg, hk, rfl, br⟩ := hrel
          have HG := hide hgg
          clear hgg
          by_cases hlt : k < lk
          · obtain ⟨_, _, e1, k1⟩ := H1.out
            obtain ⟨_, _, e2, k2⟩ := H2.out
            obtain ⟨_, _, e3, k3⟩ := H3.out
            cases e1; cases e2; cases e3
            obtain ⟨x1, o1, rfl, hx1, y1⟩ := k1 k hlt
            obtain ⟨x2, o2, rfl, hx2, y2⟩ := k2 k hlt
            obtain ⟨x3, o3, rfl, hx3, y3⟩ := k3 k hlt
            clear k1 k2 k3
            have z1 : wr.cell? ⟨x1, o1 + k, none⟩ = some (.int .i64 (f k : Int)) := cell_later br y1
            have z2 : wr.cell? ⟨x2, o2 + k, none⟩ = some (.int .i64 (t k : Int)) := cell_later br y2
            have z3 : wr.cell? ⟨x3, o3 + k, none⟩ = some (.float .f64 (x k)) := cell_later br y3
            obtain ⟨l1, l2, l3⟩ := HL.out k hlt
            have ca := cell_later br (ct.k.at_ (f k) l1)
            have cb := cell_later br (ct.k.at_ (t k) l2)
            obtain ⟨g1, g2⟩ := HLk.out k hlt
            have hxk := HX.out k hlt
            have la := HD.out.le _ l1
            have lb := HD.out.le _ l2
            have hxf : x k < infW := Nat.lt_of_le_of_lt hxk.2 (by decide)
            generalize f k = a at *
            generalize t k = b at *
            generalize x k = y at *
            have i1 : (0 : Int) ≤ (k : Int) := by omega
            have i2 : (k : Int) < (lk : Int) := by omega
            have j1 : (0 : Int) ≤ (a : Int) := by omega
            have j2 : (a : Int) < (n : Int) := by omega
            have j3 : (0 : Int) ≤ (b : Int) := by omega
            have j4 : (b : Int) < (n : Int) := by omega
            clear y1 y2 y3
            by_cases fin : km a < infW
            · have finb := g1.1 fin
              obtain ⟨r1, r2⟩ := g2 fin
              have oa : (FloatKind.f64.format.order (km a) 9218868437227405311 == some .gt) = false := by
                rw [show FloatKind.f64.format.order (km a) 9218868437227405311 = Ieee.double.order (km a) 9218868437227405311 from rfl, ord_gt la (by decide)]; exact decide_eq_false (by unfold infW at fin; omega)
              have ob : (FloatKind.f64.format.order (km b) 9218868437227405311 == some .gt) = false := by
                rw [show FloatKind.f64.format.order (km b) 9218868437227405311 = Ieee.double.order (km b) 9218868437227405311 from rfl, ord_gt lb (by decide)]; exact decide_eq_false (by unfold infW at finb; omega)
              have ad1 := fun (wx : World) => run_float_arith (P := Try.prog) wx .add 41 .f64 (km a) y (addF (km a) y) (add_fin fin hxf)
              have ad2 := fun (wx : World) => run_float_arith (P := Try.prog) wx .add 41 .f64 (km b) y (addF (km b) y) (add_fin finb hxf)
              have o1 := leq_yes lb (addF_inf (km a) y) r1
              have o2 := leq_yes la (addF_inf (km b) y) r2
              generalize km a = ka at *
              generalize km b = kb' at *
              generalize addF ka y = sa at *
              generalize addF kb' y = sb at *
              clear r1 r2 fin finb g1 g2 la lb hxk hxf
              go_upto_region 31 with fail
              go_quiet (fail)
              go_wp2_with fail
              go_roundg (lk - (k + 1))
              case measure => rw [HG.out]; omega
              case rel => exact ⟨k + 1, rfl, by omega, by go_num, below_drewN br _⟩
            · have finb : ¬ km b < infW := fun h => fin (g1.2 h)
              have oa : (FloatKind.f64.format.order (km a) 9218868437227405311 == some .gt) = true := by
                rw [show FloatKind.f64.format.order (km a) 9218868437227405311 = Ieee.double.order (km a) 9218868437227405311 from rfl, ord_gt la (by decide)]; exact decide_eq_true (by unfold infW at fin; omega)
              have ob : (FloatKind.f64.format.order (km b) 9218868437227405311 == some .gt) = true := by
                rw [show FloatKind.f64.format.order (km b) 9218868437227405311 = Ieee.double.order (km b) 9218868437227405311 from rfl, ord_gt lb (by decide)]; exact decide_eq_true (by unfold infW at finb; omega)
              generalize km a = ka at *
              generalize km b = kb' at *
              clear fin finb g1 g2 la lb hxk hxf
              go_wp2_with fail
              go_roundg (lk - (k + 1))
              case measure => rw [HG.out]; omega
              case rel => exact ⟨k + 1, rfl, by omega, by go_num, br⟩
          · obtain rfl : k = lk := by omega
            go_wp2_with fail
            go_meet
            case rel => exact br
      case rest =>
        obtain ⟨WC, hWC⟩ : ∃ WC, WC = wc := ⟨_, rfl⟩
        subst hWC
        have hcb := ct.b.trans (hcut.mono ct.b.size)
        obtain ⟨hbK, hbX⟩ : kb < wn.heap.size ∧ nx < wn.heap.size := ⟨ct.k.lt.2, ct.x.lt.2⟩
        have HK := hide (fun v (hv : v < n) => cell_later hcut (ct.k.at_ v hv))
        have HXx := hide (fun v (hv : v < n) => cell_later hcut (ct.x.at_ v hv))
        have H1 := hide (H1.out.later hcut)
        have H2 := hide (H2.out.later hcut)
        have H3 := hide (H3.out.later hcut)
        clear hcut ct hbK hbX HLk
        go_wp2_with (at_make; refine wpList_make_own _ (by rfl) _ _ 24 (by rfl) WC.heap.size 41 i41 (.float .f64 0) 1 Try.underlying24 hi41 hz410 hz411 .i64 .i64 _ n (by rfl) (by rfl) (by rfl) (by rw [hz412]; omega) (by unfold maxLen; omega) (Nat.le_refl _) ?_)
        intro wm hownm hgrm
        have bm : Below WC.heap.size WC wm := (Below.refl _ _).grown hgrm (Nat.le_refl _) (fun k hk => by cases hk)
        go_wp2_with fail
        go_loopg [22, 23] n (fun gg l i wr => ∃ (k len : Nat) (xs : List Value), gg = n - k ∧ k ≤ n ∧ l = .slice (some ⟨WC.heap.size, 0, none⟩) len n ∧ i = .int .i64 k ∧ wr.ownsRow WC.heap.size 41 1 (.slice (some ⟨WC.heap.size, 0, none⟩) len n) len xs ∧ Below WC.heap.size WC wr)
        case atStart => exact ⟨0, 0, [], by omega, by omega, rfl, rfl, hownm, bm⟩
        case round =>
          obtain ⟨v, len, xs, hgg, hk, rfl, rfl, hown, br⟩ := hrel
          have HG := hide hgg
          clear hgg hownm hgrm bm
          by_cases hlt : v < n
          · have cv := cell_later br (HK.out v hlt)
            have cx := cell_later br (HXx.out v hlt)
            have lv := HD.out.le _ hlt
            have i1 : (0 : Int) ≤ (v : Int) := by omega
            have i2 : (v : Int) < (n : Int) := by omega
            by_cases fin : km v < infW
            · have ol := leq_yes (b := 9218868437227405311) lv (by decide) (by unfold infW at fin; omega)
              have hvS := (HD.out.mem v hlt).2 fin
              have own0 := own_zero hown
              have HV := hide fin
              have hlen : len ≤ n := by
                rcases hown.2 with ⟨a, _⟩ | ⟨g', cap', cur, a, b, c, d, _⟩
                · cases a
                · cases a; exact d
              clear cx fin hown
              go_upto_block 4 with fail
              go_cut [22, 24, 25] (fun l _ _ wx => ∃ L : List Nat, l = .slice (some ⟨WC.heap.size, 0, none⟩) L.length n ∧ waySum L 0 = km v ∧ L.length ≤ n ∧ (∀ z ∈ L, z ≤ maxW) ∧ wx.ownsRow WC.heap.size 41 1 (.slice (some ⟨WC.heap.size, 0, none⟩) L.length n) L.length (L.map (Value.float .f64)) ∧ Below WC.heap.size WC wx)
              case first =>
                have rkv := rk_lt HGr.out HD.out v hvS
                go_wp2_with fail
                go_loopg [22, 24, 25] (rk S v) (fun gg l ci st wx => ∃ (c : Nat) (L : List Nat), gg = rk S c ∧ c ∈ S ∧ l = .slice (some ⟨WC.heap.size, 0, none⟩) L.length n ∧ ci = .int .i64 c ∧ st = .int .i64 L.length ∧ waySum L (km c) = km v ∧ L.length + rk S c ≤ rk S v ∧ (∀ z ∈ L, z ≤ maxW) ∧ wx.ownsRow WC.heap.size 41 1 (.slice (some ⟨WC.heap.size, 0, none⟩) L.length n) L.length (L.map (Value.float .f64)) ∧ Below WC.heap.size WC wx)
                case atStart => exact ⟨v, [], rfl, hvS, rfl, rfl, rfl, rfl, by simp, by simp, own0, br⟩
                case round =>
                  obtain ⟨c, L, hgg, hc, rfl, rfl, rfl, hsum, hst, hmx, hown, brr⟩ := hrel
                  have HG2 := hide hgg
                  have hcn := HD.out.sl c hc
                  have HSum := hide hsum
                  have HMx := hide hmx
                  clear hgg own0 cv br i1 i2 ol lv hsum hmx
                  by_cases hcs : c = s
                  · have hne : ((c : Int) != (s : Int)) = false := by simp [hcs]
                    have hs0 : waySum L 0 = km v := by rw [← HSum.out, hcs, hz]
                    clear hcs
                    go_wp2_with fail
                    go_meet
                    case rel => exact ⟨L, rfl, hs0, by omega, HMx.out, hown, brr⟩
                  · have hne : ((c : Int) != (s : Int)) = true := by simp; omega
                    obtain ⟨i, u, hi, hu, hr, hadd, hh⟩ := (HN.out c).2 ⟨hc, hcs⟩
                    have hlL : (L.length : Int) < (n : Int) := by omega
                    have cx := cell_later brr (HXx.out c hcn)
                    obtain ⟨_, _, e1, k1⟩ := H1.out
                    obtain ⟨_, _, e2, k2⟩ := H2.out
                    obtain ⟨_, _, e3, k3⟩ := H3.out
                    cases e1; cases e2; cases e3
                    obtain ⟨x1, o1, rfl, hx1, y1⟩ := k1 i hi
                    obtain ⟨x2, o2, rfl, hx2, y2⟩ := k2 i hi
                    obtain ⟨x3, o3, rfl, hx3, y3⟩ := k3 i hi
                    clear k1 k2 k3
                    have z1 : wr.cell? ⟨x1, o1 + i, none⟩ = some (.int .i64 (f i : Int)) := cell_later brr y1
                    have z2 : wr.cell? ⟨x2, o2 + i, none⟩ = some (.int .i64 (t i : Int)) := cell_later brr y2
                    have z3 : wr.cell? ⟨x3, o3 + i, none⟩ = some (.float .f64 (x i)) := cell_later brr y3
                    have hxi := (HX.out i hi).2
                    have hul := HD.out.sl u hu
                    have i1 : (0 : Int) ≤ (i : Int) := by omega
                    have i2 : (i : Int) < (lk : Int) := by omega
                    have i3 : (0 : Int) ≤ (c : Int) := by omega
                    have i4 : (c : Int) < (n : Int) := by omega
                    have HStep := hide (way_step HSum.out hadd)
                    clear y1 y2 y3 hcs hadd
                    obtain ⟨A, hA⟩ : ∃ A : Int, A = nf c := ⟨_, rfl⟩
                    rw [← hA] at cx hh
                    clear hA
                    generalize x i = y at *
                    have hcc : ((c : Int) != (c : Int)) = false := by simp
                    have ha1 : 0 ≤ A ∧ A < 2 * (lk : Int) := by rcases hh with ⟨_, _, rfl⟩ | ⟨_, _, rfl⟩ <;> omega
                    have e1 : decide (A < 0) = false := decide_eq_false (by omega)
                    have e2 : decide (2 * (lk : Int) ≤ A) = false := decide_eq_false (by omega)
                    have hq0 : A / 2 = (i : Int) := by rcases hh with ⟨_, _, rfl⟩ | ⟨_, _, rfl⟩ <;> omega
                    have hq1 : A.tdiv 2 = (i : Int) := by rw [Int.tdiv_eq_ediv_of_nonneg ha1.1]; exact hq0
                    have hwl : IntKind.i64.wrap (2 * (lk : Int)) = 2 * (lk : Int) := by rw [IntKind.wrap_i64]; omega
                    rcases hh with ⟨h1, h2, h3⟩ | ⟨h1, h2, h3⟩
                    · rw [← h1] at z1
                      rw [← h2] at z2
                      have hr0 : A % 2 = 0 := by omega
                      have hr1 : A.tmod 2 = 0 := by rw [Int.tmod_eq_emod_of_nonneg ha1.1]; exact hr0
                      clear h1 h2 h3 ha1 hcn
                      go_wp2_with (at_builtin; refine wpList_append_fits _ (by rfl) _ _ 24 (by rfl) WC.heap.size 41 i41 1 Try.underlying24 hi41 hz411 WC.heap.size L.length n _ (by rfl) (hown.alloc _) ⟨wr.heap.size, 0, none⟩ 1 1 [.float .f64 y] (by rfl) rfl (cell_one_new _ _ _) (fun u hu => by simp at hu; subst hu; rfl) (by omega) ?_; intro wa howna hgra)
                      go_roundg (rk S u)
                      case measure => rw [HG2.out]; exact hr
                      case rel => exact ⟨u, L ++ [y], rfl, hu, by simp, rfl, by simp, HStep.out, by simp; omega, fun z hz => by rcases List.mem_append.1 hz with h | h; exact HMx.out z h; simp at h; omega, by simpa using howna, (brr.alloc brr.size _).grown hgra (by simp; exact Nat.le_succ_of_le brr.size) (fun k hk => by cases hk; exact Nat.le_refl _)⟩
                    · rw [← h1] at z2
                      rw [← h2] at z1
                      have hr0 : A % 2 = 1 := by omega
                      have hr1 : A.tmod 2 = 1 := by rw [Int.tmod_eq_emod_of_nonneg ha1.1]; exact hr0
                      clear h1 h2 h3 ha1 hcn
                      go_wp2_with (at_builtin; refine wpList_append_fits _ (by rfl) _ _ 24 (by rfl) WC.heap.size 41 i41 1 Try.underlying24 hi41 hz411 WC.heap.size L.length n _ (by rfl) (hown.alloc _) ⟨wr.heap.size, 0, none⟩ 1 1 [.float .f64 y] (by rfl) rfl (cell_one_new _ _ _) (fun u hu => by simp at hu; subst hu; rfl) (by omega) ?_; intro wa howna hgra)
                      go_roundg (rk S u)
                      case measure => rw [HG2.out]; exact hr
                      case rel => exact ⟨u, L ++ [y], rfl, hu, by simp, rfl, by simp, HStep.out, by simp; omega, fun z hz => by rcases List.mem_append.1 hz with h | h; exact HMx.out z h; simp at h; omega, by simpa using howna, (brr.alloc brr.size _).grown hgra (by simp; exact Nat.le_succ_of_le brr.size) (fun k hk => by cases hk; exact Nat.le_refl _)⟩
              case rest =>
                obtain ⟨L, rfl, hsum, hL, hmx, hown, br2⟩ := hcut
                have cv2 : wc.cell? ⟨kb, v, none⟩ = some (.float .f64 (km v)) := cell_later br2 (HK.out v hlt)
                have HCell := hide (fun j (hj : j < L.length) => show wc.cell? ⟨WC.heap.size, j, none⟩ = some (.float .f64 (L.getD j 0)) from by rw [World.ownsRow.cellAt hown j (by omega)]; simp [hj])
                have HMx := hide hmx
                have HSum := hide hsum
                clear br cv own0 hmx hsum
                go_upto_block 6 with fail
                obtain ⟨WD, hWD⟩ : ∃ WD, WD = wc := ⟨_, rfl⟩
                subst hWD
                go_cut [30, 31] (fun sm _ wx => sm = .float .f64 (km v) ∧ WD = wx)
                case first =>
                  go_wp2_with fail
                  go_loopg [30, 31] L.length (fun gg sm ki wx => WD = wx ∧ ∃ (q : Nat), gg = q ∧ q ≤ L.length ∧ ki = .int .i64 ((q : Int) - 1) ∧ sm = .float .f64 (waySum (L.drop q) 0) ∧ V (waySum (L.drop q) 0) ≤ (L.length - q) * U)
                  case atStart => exact ⟨rfl, L.length, rfl, Nat.le_refl _, rfl, by simp [waySum], by simp [waySum, show V 0 = 0 from by decide]⟩
                  case round =>
                    obtain ⟨rfl, q, hgg, hq, rfl, rfl, hV⟩ := hrel
                    have HG3 := hide hgg
                    clear hgg
                    by_cases q0 : 0 < q
                    · obtain ⟨p, rfl⟩ : ∃ p, q = p + 1 := ⟨q - 1, by omega⟩
                      have hpL : p < L.length := by omega
                      have hc := HCell.out p hpL
                      have hm := HMx.out (L.getD p 0) (by rw [List.getD_eq_getElem?_getD, List.getElem?_eq_getElem hpL]; simp)
                      have hds := waySum_drop L 0 p hpL
                      have hbd := addF_bd hV hm (by omega)
                      have hfin := fin_of hV (by omega)
                      have hfin2 : L.getD p 0 < infW := Nat.lt_of_le_of_lt hm (by decide)
                      have ad := fun (wx : World) => run_float_arith (P := Try.prog) wx .add 41 .f64 (waySum (L.drop (p + 1)) 0) (L.getD p 0) (addF (waySum (L.drop (p + 1)) 0) (L.getD p 0)) (add_fin hfin hfin2)
                      have hR : V (waySum (L.drop p) 0) ≤ (L.length - p) * U := by
                        rw [hds]; refine Nat.le_trans hbd (Nat.mul_le_mul_right _ (by omega))
                      have HDs := hide hds
                      have HR := hide hR
                      have hkk : ((p + 1 : Nat) : Int) - 1 = (p : Int) := by omega
                      rw [hkk]
                      have i3 : (0 : Int) ≤ (p : Int) := by omega
                      have i4 : (p : Int) < (L.length : Int) := by omega
                      clear hV hm hbd hfin hfin2 hR hds
                      generalize L.getD p 0 = y at *
                      generalize waySum (L.drop (p + 1)) 0 = z at *
                      go_wp2_with fail
                      go_roundg p
                      case measure => rw [HG3.out]; omega
                      case rel => exact ⟨rfl, p, rfl, by omega, rfl, by rw [HDs.out], HR.out⟩
                    · obtain rfl : q = 0 := by omega
                      go_wp2_with fail
                      go_meet
                      case rel => exact ⟨by rw [← HSum.out]; rfl, rfl⟩
                case rest =>
                  obtain ⟨rfl, rfl⟩ := hcut
                  have heq : (FloatKind.f64.format.order (km v) (km v) != some .eq) = false := by
                    have := ord_eq lv lv
                    rw [decide_eq_true rfl] at this
                    simp only [bne, Bool.not_eq_false']; exact this
                  go_wp2_with fail
                  go_roundg (n - (v + 1))
                  case measure => rw [HG.out]; omega
                  case rel => exact ⟨v + 1, L.length, _, rfl, by omega, rfl, by go_num, hown, br2⟩
            · have ol := leq_no (b := 9218868437227405311) lv (by decide) (by unfold infW at fin; omega)
              have og : (FloatKind.f64.format.order (km v) 9218868437227405311 == some .gt) = true := by
                rw [show FloatKind.f64.format.order (km v) 9218868437227405311 = Ieee.double.order (km v) 9218868437227405311 from rfl, ord_gt lv (by decide)]; exact decide_eq_true (by unfold infW at fin; omega)
              have hnv : nf v = -1 := (HN.out v).1 (fun h => fin ((HD.out.mem v hlt).1 h.1))
              rw [hnv] at cx
              clear hnv fin lv
              go_wp2_with fail
              go_roundg (n - (v + 1))
              case measure => rw [HG.out]; omega
              case rel => exact ⟨v + 1, len, xs, rfl, by omega, rfl, by go_num, hown, br⟩
          · obtain rfl : v = n := by omega
            go_wp2_with fail
            go_ret
            exact ⟨rfl, hcb.trans (br.mono hcb.size)⟩
end Go.Proofs.Qxb6628650a
