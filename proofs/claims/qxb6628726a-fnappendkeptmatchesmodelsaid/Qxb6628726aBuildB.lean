/-
  THE WALK of keptBuild (seat b6628726a).
-/
import Derived.Test.Qxb6628726aBuild
namespace Go.Proofs.Qxb6628726a
open Go.RowKit
set_option linter.unusedVariables false
attribute [local go_sem ↓] Go.wp_at_zero Go.wp_at_succ

theorem Row.mono {w : World} {B B' : Nat} {e : TypeId} {v : Value} {l : List (Int × Int)} (h : Row w B e v l) (hB : B' ≤ B) : Row w B' e v l := by
  refine ⟨h.1, ?_⟩
  rcases h.2 with a | ⟨g, cap, cur, a, b, c, d⟩
  · exact .inl a
  · exact .inr ⟨g, cap, cur, a, Nat.le_trans hB b, c, d⟩

/-- The plain part of a log's state. -/
structure PS where
  base : Nat
  tk : List (Int × Int)
  cn : List (Int × Int)
def PS.add (wn : Nat) (p : PS) (N : Nat) (u : Int) : PS :=
  if wn = 0 then p else ⟨baseOf p.tk p.base N, tkAdd p.tk ((N - baseOf p.tk p.base N : Nat) : Int) u, cnAdd p.cn u⟩
def LS.ps (s : LS) : PS := ⟨s.base, s.tk, s.cn⟩
theorem LS.add_ps (s : LS) (N : Nat) (u : Int) (tv : Value) : (s.add N u tv).ps = s.ps.add s.wins.length N u := by
  unfold LS.add PS.add LS.ps; split <;> rfl
theorem LS.add_lim (s : LS) (N : Nat) (u : Int) (tv : Value) : (s.add N u tv).lim = s.lim := by unfold LS.add; split <;> rfl

/-- The log after the first k checks of sr, moved by d; each counts f of it. -/
def runS (wn : Nat) (f : Int × Int → Int) (d : Int) (sr : List (Int × Int)) : Nat → PS
  | 0 => ⟨0, [], List.replicate wn (0, 0)⟩
  | k + 1 => (runS wn f d sr k).add wn ((sr.getD k (0, 0)).1 + d).toNat (f (sr.getD k (0, 0)))

theorem cnAdd_len (cn : List (Int × Int)) (u : Int) : (cnAdd cn u).length = cn.length := by simp [cnAdd]
theorem tkAdd_len (tk : List (Int × Int)) (a u : Int) : (tkAdd tk a u).length ≤ tk.length + 1 := by unfold tkAdd; split <;> simp
theorem runS_len (wn : Nat) (f : Int × Int → Int) (d : Int) (sr : List (Int × Int)) : ∀ k, (runS wn f d sr k).cn.length = wn ∧ (runS wn f d sr k).tk.length ≤ k
  | 0 => by simp [runS]
  | k + 1 => by
    have := runS_len wn f d sr k
    unfold runS PS.add
    split
    · exact ⟨this.1, by omega⟩
    · refine ⟨by rw [cnAdd_len]; exact this.1, ?_⟩
      have := tkAdd_len (runS wn f d sr k).tk ((((sr.getD k (0, 0)).1 + d).toNat - baseOf (runS wn f d sr k).tk (runS wn f d sr k).base ((sr.getD k (0, 0)).1 + d).toNat : Nat) : Int) (f (sr.getD k (0, 0)))
      simp only
      omega
/-- No instant so far lies ahead of the base. -/
theorem runS_base (wn : Nat) (f : Int × Int → Int) (d : Int) (sr : List (Int × Int)) (N : Nat) : ∀ k, (∀ i, i < k → ((sr.getD i (0, 0)).1 + d).toNat ≤ N) → (runS wn f d sr k).base ≤ N
  | 0, _ => by simp [runS]
  | k + 1, h => by
    have := runS_base wn f d sr N k (fun i hi => h i (by omega))
    unfold runS PS.add
    split
    · exact this
    · simp only [baseOf]; split
      · exact h k (by omega)
      · exact this

set_option maxRecDepth 100000 in
set_option maxHeartbeats 2000000 in
theorem build_any (v0 v1 v2 : Value) (uw cw sr : List (Int × Int)) (d : Int) (w : World) (h0 : Rd2 w v0 uw) (h1 : Rd2 w v1 cw) (h2 : Rd2 w v2 sr) (l0 : uw.length ≤ 1000000) (l1 : cw.length ≤ 1000000) (l2 : sr.length ≤ 1000000)
    (hd : 0 ≤ d) (hin : ∀ i, i < sr.length → 0 ≤ (sr.getD i (0, 0)).1 ∧ (sr.getD i (0, 0)).1 + d ≤ 4611686018427387904) (hmo : ∀ i j, i ≤ j → j < sr.length → (sr.getD i (0, 0)).1 ≤ (sr.getD j (0, 0)).1) :
    Calls Try.prog 9 #[v0, v1, v2, .int .i64 d] w fun e w' => ∃ L s t, e = .returned (.pointer (some ⟨L, 0, none⟩)) ∧ Two w' w.heap.size L s t ∧ s.ps = runS uw.length Prod.snd d sr sr.length ∧ t.ps = runS cw.length (fun _ => 1) d sr sr.length ∧ s.lim = false ∧ t.lim = true ∧ s.wins = uw ∧ t.wins = cw ∧ Below w.heap.size w w' := by
  have HIn := hide hin
  have HMo := hide hmo
  clear hin hmo
  obtain ⟨a2, c2, rfl, k2⟩ := id h2
  have K2 := hide k2
  clear k2
  go_enter Try.func9, Try.ntmps9
  go_wp2_with fail
  refine (windows_any v0 uw w h0 l0).mono ?_
  rintro e w1 ⟨x0, g0, rfl, hg0, row0, bel1⟩
  go_wp2_with fail
  refine (windows_any v1 cw w1 (h1.later bel1) l1).mono ?_
  rintro e w2 ⟨x1, g1, rfl, hg1, row1, bel2⟩
  have bel12 : Hid (Below w.heap.size w w2) := hide (bel1.trans (bel2.mono bel1.size))
  have hs2 := bel12.out.size
  have row0' := Row.below row0 bel2
  have row1' : Row w2 w.heap.size 66 x1 cw := Row.mono row1 bel1.size
  have hne : g0 ≠ g1 := by
    have a := (World.ownsRow.lt row0 g0 hg0).2
    have b := (World.ownsRow.lt row1 g1 hg1).1
    omega
  clear row0 row1 bel1 bel2
  go_wp2_with fail
  refine (newLog_any x0 x1 uw cw g0 g1 w.heap.size w2 row0' row1' hg0 hg1 hne l0 l1 hs2).mono ?_
  rintro e w3 ⟨L, s0, t0, rfl, two0, e1, e2, e3, e4, e5, e6, e7, e8, e9, e10, bel3⟩
  have bel13 : Hid (Below w.heap.size w w3) := hide (bel12.out.trans (bel3.mono hs2))
  have hps : Hid (s0.ps = runS uw.length Prod.snd d sr 0 ∧ t0.ps = runS cw.length (fun _ => 1) d sr 0 ∧ s0.lim = false ∧ t0.lim = true ∧ s0.wins = uw ∧ t0.wins = cw) := hide (by
    refine ⟨?_, ?_, e3, e4, e5, e6⟩
    · unfold LS.ps runS; rw [e1, e7, e9]
    · unfold LS.ps runS; rw [e2, e8, e10])
  clear e1 e2 e3 e4 e5 e6 e7 e8 e9 e10 bel3 row0' row1' hg0 hg1 hne
  go_wp2_with fail
  go_loopg [10] sr.length (fun g i wr => ∃ (k : Nat) (s t : LS), g = sr.length - k ∧ k ≤ sr.length ∧ i = .int .i64 k ∧ Two wr w.heap.size L s t ∧ s.ps = runS uw.length Prod.snd d sr k ∧ t.ps = runS cw.length (fun _ => 1) d sr k ∧ s.lim = false ∧ t.lim = true ∧ s.wins = uw ∧ t.wins = cw ∧ Below w.heap.size w wr)
  case atStart => exact ⟨0, s0, t0, by omega, by omega, rfl, two0, hps.out.1, hps.out.2.1, hps.out.2.2.1, hps.out.2.2.2.1, hps.out.2.2.2.2.1, hps.out.2.2.2.2.2, bel13.out⟩
  case round =>
    obtain ⟨k, s, t, hgk, hk, rfl, twor, p1, p2, p3, p4, p5, p6, belr⟩ := hrel
    have HP := hide (And.intro p1 (And.intro p2 (And.intro p3 (And.intro p4 (And.intro p5 p6)))))
    have HG := hide hgk
    clear hgk p1 p2 p3 p4 p5 p6 two0 hps
    by_cases hlt : k < sr.length
    · obtain ⟨b, off, rfl, hb, hcells⟩ := K2.out (by omega)
      have q1 : wr.cell? ⟨b, off + k * 2, none⟩ = some (.int .i64 (sr.getD k (0, 0)).1) := (belr.cell (p := ⟨b, off + k * 2, none⟩) hb).trans (hcells k hlt).1
      have q2 : wr.cell? ⟨b, off + k * 2 + 1, none⟩ = some (.int .i64 (sr.getD k (0, 0)).2) := (belr.cell (p := ⟨b, off + k * 2 + 1, none⟩) hb).trans (hcells k hlt).2
      have hi := HIn.out k hlt
      have hbs : Hid (∀ wn f, (runS wn f d sr k).base ≤ ((sr.getD k (0, 0)).1 + d).toNat) := hide fun wn f => runS_base wn f d sr _ k fun i hi' => by have := HMo.out i k (by omega) hlt; omega
      have hlu := runS_len uw.length Prod.snd d sr k
      have hlc := runS_len cw.length (fun _ => 1) d sr k
      have ok1 : s.Ok ((sr.getD k (0, 0)).1 + d).toNat := by
        have e1 := HP.out.1; have e2 := HP.out.2.2.2.2.1
        have ea : s.base = (runS uw.length Prod.snd d sr k).base := by rw [← e1]; rfl
        have eb : s.tk = (runS uw.length Prod.snd d sr k).tk := by rw [← e1]; rfl
        have ec : s.cn = (runS uw.length Prod.snd d sr k).cn := by rw [← e1]; rfl
        exact ⟨by rw [e2]; exact l0, by rw [eb]; omega, by rw [ec]; omega, by rw [ea]; exact hbs.out _ _⟩
      have ok2 : t.Ok ((sr.getD k (0, 0)).1 + d).toNat := by
        have e1 := HP.out.2.1; have e2 := HP.out.2.2.2.2.2
        have ea : t.base = (runS cw.length (fun _ => 1) d sr k).base := by rw [← e1]; rfl
        have eb : t.tk = (runS cw.length (fun _ => 1) d sr k).tk := by rw [← e1]; rfl
        have ec : t.cn = (runS cw.length (fun _ => 1) d sr k).cn := by rw [← e1]; rfl
        exact ⟨by rw [e2]; exact l1, by rw [eb]; omega, by rw [ec]; omega, by rw [ea]; exact hbs.out _ _⟩
      have HR := hide (show runS uw.length Prod.snd d sr (k + 1) = (runS uw.length Prod.snd d sr k).add uw.length ((sr.getD k (0, 0)).1 + d).toNat (sr.getD k (0, 0)).2 ∧ runS cw.length (fun _ => 1) d sr (k + 1) = (runS cw.length (fun _ => 1) d sr k).add cw.length ((sr.getD k (0, 0)).1 + d).toNat 1 from ⟨rfl, rfl⟩)
      clear hcells hbs hlu hlc
      generalize sr.getD k (0, 0) = x at *
      obtain ⟨x1, x2⟩ := x
      simp only at q1 q2 hi
      obtain ⟨N, hN⟩ : ∃ N : Nat, x1 + d = N := ⟨(x1 + d).toNat, by omega⟩
      have hNt : (x1 + d).toNat = N := by omega
      have HNt := hide hNt
      simp only [hNt] at ok1 ok2 HR
      have hN2 : N ≤ 4611686018427387904 := by omega
      clear hNt
      have i1 : (0 : Int) ≤ (k : Int) := by omega
      have i2 : (k : Int) < (sr.length : Int) := by omega
      have hbw : b < wr.heap.size := World.block_lt_of_cell? _ _ q1
      have hwr : IntKind.i64.wrap (N : Int) = (N : Int) := by rw [IntKind.wrap_i64]; omega
      have HZ := hide (fun w' => zzat_any N hN2 w')
      have HA := hide (fun w' (h : Two w' w.heap.size L s t) => rateAdd_any L w.heap.size s t N x2 w' h ok1 ok2 hN2)
      clear ok1 ok2 hi
      go_upto_region 5 with fail
      go_region_with (first | (go_at_call 11; refine (HZ.out _).mono ?_; rintro e w1 ⟨rfl, hb1⟩; have q2' := cell_later (a := ⟨b, off + k * 2 + 1, none⟩) (v := .int .i64 x2) hb1 (by exact q2)) | (go_at_call 20; refine (HA.out _ (by exact (twor.below (Below.refl _ _).drew).below hb1)).mono ?_; rintro e w2 ⟨rfl, tv1, tv2, two2, hb2⟩))
      all_goals
        go_wp2_with fail
        go_roundg (sr.length - (k + 1))
        case measure => rw [HG.out]; omega
        case rel =>
          refine ⟨k + 1, s.add N x2 tv1, t.add N 1 tv2, rfl, by omega, by go_num, two2, ?_, ?_, ?_, ?_, ?_, ?_, ?_⟩
          · rw [LS.add_ps, HP.out.1, HP.out.2.2.2.2.1, HR.out.1]
          · rw [LS.add_ps, HP.out.2.1, HP.out.2.2.2.2.2, HR.out.2]
          · rw [LS.add_lim]; exact HP.out.2.2.1
          · rw [LS.add_lim]; exact HP.out.2.2.2.1
          · rw [LS.add_wins]; exact HP.out.2.2.2.2.1
          · rw [LS.add_wins]; exact HP.out.2.2.2.2.2
          · exact (belr.drew.trans (hb1.mono belr.size)).trans hb2
    · obtain rfl : k = sr.length := by omega
      go_wp2_with fail
      go_ret
      exact ⟨L, s, t, rfl, twor, HP.out.1, HP.out.2.1, HP.out.2.2.1, HP.out.2.2.2.1, HP.out.2.2.2.2.1, HP.out.2.2.2.2.2, belr⟩
end Go.Proofs.Qxb6628726a
