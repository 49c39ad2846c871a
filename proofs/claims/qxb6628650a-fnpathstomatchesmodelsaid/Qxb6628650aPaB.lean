/-
  PathsTo (seat b6628650a): the walk.
-/
import Derived.Test.Qxb6628650aPaA
namespace Go.Proofs.Qxb6628650a
open Go.RowKit
set_option linter.unusedVariables false
attribute [local go_sem ↓] Go.wp_at_zero Go.wp_at_succ

/-- next, as PathsTo leaves it behind the first k settled nodes. -/
def nxK (adj : Nat → List Lk) (km : Nat → Nat) (S : List Nat) (lab : Nat → ByteArray) : Nat → Nat → Int
  | 0, _ => -1
  | k + 1, v => if v = S.getD k 0 ∧ 0 < k then nxt adj km S lab v else nxK adj km S lab k v

def ngK (k v : Nat) : Int := if v < k then -1 else 0
theorem ngK_step (k i : Nat) : updZ (ngK k) k (-1) i = ngK (k + 1) i := by
  unfold updZ ngK
  by_cases c : i = k
  · rw [if_pos c, if_pos (by omega)]
  · rw [if_neg c]
    by_cases d : i < k
    · rw [if_pos d, if_pos (by omega)]
    · rw [if_neg d, if_neg (by omega)]

theorem rkZ_step (S : List Nat) (k v : Nat) : updZ (fun v => ((rkK S k v : Nat) : Int)) (S.getD k 0) (k : Int) v = ((rkK S (k + 1) v : Nat) : Int) := by
  show _ = (((if v = S.getD k 0 then k else rkK S k v) : Nat) : Int)
  unfold updZ
  by_cases c : v = S.getD k 0
  · rw [if_pos c, if_pos c]
  · rw [if_neg c, if_neg c]
theorem nxZ_step (adj : Nat → List Lk) (km : Nat → Nat) (S : List Nat) (lab : Nat → ByteArray) (k v : Nat) : updZ (nxK adj km S lab (k + 1)) (S.getD (k + 1) 0) (nxt adj km S lab (S.getD (k + 1) 0)) v = nxK adj km S lab (k + 1 + 1) v := by
  show _ = if v = S.getD (k + 1) 0 ∧ 0 < k + 1 then nxt adj km S lab v else nxK adj km S lab (k + 1) v
  unfold updZ
  by_cases c : v = S.getD (k + 1) 0
  · rw [if_pos c, if_pos ⟨c, by omega⟩, c]
  · rw [if_neg c, if_neg (fun h => c h.1)]
theorem nxK_one (adj : Nat → List Lk) (km : Nat → Nat) (S : List Nat) (lab : Nat → ByteArray) (v : Nat) : nxK adj km S lab 0 v = nxK adj km S lab 1 v := by
  show _ = if v = S.getD 0 0 ∧ 0 < 0 then nxt adj km S lab v else nxK adj km S lab 0 v
  rw [if_neg (fun h => by omega)]
theorem RN.atQ {w : World} {B gs caps : Nat} {S : List Nat} (h : RN w B (QV gs S.length caps) S) (j : Nat) (hj : j < S.length) : w.cell? ⟨gs, j, none⟩ = some (.int .i64 ((S.getD j 0 : Nat) : Int)) := by
  rw [World.ownsRow.cellAt h j (by omega)]
  simp [hj]
/-- Where the best link lies. -/
def bp (b off : Nat) : Option Nat → Value
  | none => .pointer none
  | some j => .pointer (some ⟨b, off + j * 3, none⟩)

/-- Whether link k of v takes the place of the best so far. -/
def tkB (adj : Nat → List Lk) (lab : Nat → ByteArray) (v k : Nat) : Option Nat → Bool
  | none => true
  | some b => nb lab (lk adj v k).1 (lk adj v b).1
theorem bst_step (adj : Nat → List Lk) (km : Nat → Nat) (S : List Nat) (lab : Nat → ByteArray) (v k : Nat) : bst adj km S lab v (k + 1) = if cand adj km S v k && tkB adj lab v k (bst adj km S lab v k) then some k else bst adj km S lab v k := by
  show (if cand adj km S v k then (match bst adj km S lab v k with | none => some k | some b => if nb lab (lk adj v k).1 (lk adj v b).1 then some k else some b) else bst adj km S lab v k) = _
  cases cand adj km S v k
  · rfl
  · cases h : bst adj km S lab v k
    · rfl
    · simp only [if_true, Bool.true_and, tkB]

def PaPost (w w' : World) (n s : Nat) (adj : Nat → List Lk) (lab : Nat → ByteArray) (va : Value) (e : Ending) : Prop :=
  ∃ P kb nx rb vs km S, e = .returned (.pointer (some ⟨P, 0, none⟩)) ∧ DF n s adj km S ∧ ∃ rf, PT w w' w.heap.size P kb nx rb n s va vs km S (nxK adj km S lab S.length) rf

theorem run_make3 (n : Nat) (hn : n ≤ 1000000) : ∃ cs : Array Value, cs.size = n ∧ (∀ w : World, (Instr.makeSlice 23 (.int .i64 (n : Int)) (.int .i64 (n : Int))).run Try.prog w = .ok (.slice (some ⟨w.heap.size, 0, none⟩) n n) (w.alloc (.cells cs 3))) ∧ cs.toList = (madeCells #[Value.int .i64 0] n).toList := by
  obtain ⟨i0, hi0, hz0, hz1, hz2⟩ := info_parts info3
  refine ⟨madeCells #[.int .i64 0] n, ?_, fun w => ?_, rfl⟩
  · exact size_madeCells _ _
  · have hr := run_make (P := Try.prog) w 23 3 i0 (.int .i64 0) Try.underlying23 hi0 hz0 .i64 .i64 n n (by omega) (Int.le_refl _) (by rw [hz2]; omega) (by omega)
    rw [hz1, Nat.mul_one] at hr
    exact hr

set_option maxRecDepth 100000 in
set_option maxHeartbeats 8000000 in
theorem paths_any (T n s : Nat) (adj : Nat → List Lk) (gL capL : Nat) (lab : Nat → ByteArray) (al : Option Addr) (cl : Nat) (aA : Option Addr) (nA cA : Nat) (w : World) (tp : Tp w T n adj gL capL) (lb : Lb w T n lab al cl) (hva : w.cell? ⟨T, 3, none⟩ = some (.slice aA nA cA)) (gr : Gr n s adj) (sy : Sym n adj) :
    Calls Try.prog 10 #[.pointer (some ⟨T, 0, none⟩), .int .i64 s] w fun e w' => PaPost w w' n s adj lab (.slice aA nA cA) e := by
  obtain ⟨i3, hi3, hz30, hz31, hz32⟩ := info_parts info3
  have hsn := gr.hs
  have hn := gr.hn
  obtain ⟨cs, hcs, hmk, hcl⟩ := run_make3 n (by omega)
  have HSe := hide (search_any T n s adj gL capL w tp gr)
  go_enter Try.func10, Try.ntmps10
  go_wp2_with fail
  refine HSe.out.mono ?_
  rintro e w1 ⟨kb, vs, km, S, rfl, df, rF, rN, hvk, b1⟩
  have HDF := hide df
  have tv := cell_later b1 hva
  have hTl := World.block_lt_of_cell? _ _ hva
  have hs1 := b1.size
  have hTl1 : T < w1.heap.size := Nat.lt_of_lt_of_le hTl hs1
  clear HSe
  go_upto_region 2 with fail
  go_region
  obtain ⟨W2, hW2⟩ : ∃ W2, W2 = ((w1.alloc (Obj.cells cs 3)).alloc (Obj.cells #[Value.int IntKind.i64 ↑s, QV kb n n, Value.slice (some ⟨w1.heap.size, 0, none⟩) n n, Value.slice aA nA cA] 55)).drew := ⟨_, rfl⟩
  have hb2 : Below w1.heap.size w1 W2 := by rw [hW2]; exact (((Below.refl _ _).alloc (Nat.le_refl _) _).alloc (by simp) _).drew
  have hX : (w1.alloc (Obj.cells cs 3)).heap.size = w1.heap.size + 1 := by simp
  have pk : ∀ i, W2.cell? ⟨w1.heap.size + 1, i, none⟩ = #[Value.int IntKind.i64 ↑s, QV kb n n, Value.slice (some ⟨w1.heap.size, 0, none⟩) n n, Value.slice aA nA cA][i]? := fun i => by
    rw [hW2, ← hX]; exact World.cell?_alloc_new _ _ _ _
  have p0 : W2.cell? ⟨w1.heap.size + 1, 0, none⟩ = some (.int .i64 (s : Int)) := pk 0
  have p1 : W2.cell? ⟨w1.heap.size + 1, 1, none⟩ = some (QV kb n n) := pk 1
  have p2 : W2.cell? ⟨w1.heap.size + 1, 2, none⟩ = some (QV w1.heap.size n n) := pk 2
  have p3 : W2.cell? ⟨w1.heap.size + 1, 3, none⟩ = some (.slice aA nA cA) := pk 3
  have hnx : W2.heap[w1.heap.size]? = some (.cells cs 3 (0, 0)) := by
    rw [hW2]
    show ((w1.alloc (Obj.cells cs 3)).alloc _).heap[w1.heap.size]? = _
    rw [heap_alloc_old _ _ (by simp), heap_alloc_new]
  have rx : RZ W2 w.heap.size w1.heap.size n (ngK 0) := by
    refine (RZ.made ⟨?_, .inr ⟨w1.heap.size, n, cs, rfl, hs1, hnx, Nat.le_refl _, by unfold maxLen; omega, by rw [hcs, Nat.mul_one], ?_⟩⟩).congr (fun i _ => by simp [ngK])
    · rw [← hcl]; simp [hcs]
    · rw [Nat.mul_one, ← hcl, ← hcs, ← Array.length_toList, List.take_length]
  rw [← hW2]
  have b2 := b1.trans (hb2.mono hs1)
  have rF2 := rF.of_block (hb2.block _ rF.lt.2)
  have rN2 := rN.keep (fun k hk => hb2.block k (World.ownsRow.lt rN k hk).2)
  have nk : kb ≠ w1.heap.size := by have := rF.lt.2; omega
  have nv : vs.ownBlock ≠ some w1.heap.size := fun e => by have := (World.ownsRow.lt rN _ e).2; omega
  have nP : w1.heap.size + 1 ≠ w1.heap.size := by omega
  have hnxB : w.heap.size ≤ w1.heap.size := hs1
  generalize w1.heap.size + 1 = P at *
  generalize w1.heap.size = nx at *
  clear hW2 hb2 hnx hX pk rF rN b1 tv hTl1 hs1 df hmk hcs hcl
  go_wp2_with fail
  go_loopg [8, 39] n (fun gg _ i wr => ∃ k : Nat, gg = n - k ∧ k ≤ n ∧ i = .int .i64 k ∧ RZ wr w.heap.size nx n (ngK k) ∧ W2.grownBy wr (some nx))
  case atStart => exact ⟨0, by omega, by omega, rfl, rx, ⟨rfl, rfl, rfl, Nat.le_refl _, fun _ _ _ => rfl⟩⟩
  case round =>
    obtain ⟨k, hgk, hk, rfl, rz, gw⟩ := hrel
    have HG := hide hgk
    clear hgk
    have hPl := World.block_lt_of_cell? _ _ p0
    have eP := gw.block P hPl (by simpa using nP)
    have c2 : wr.cell? ⟨P, 2, none⟩ = _ := (World.cell?_of_block eP).trans p2
    by_cases hlt : k < n
    · have hc := rz.at_ k hlt
      have hf := rz.fz k
      have i1 : (0 : Int) ≤ (k : Int) := by omega
      have i2 : (k : Int) < (n : Int) := by omega
      go_wp2_with fail
      go_roundg (n - (k + 1))
      case measure => rw [HG.out]; omega
      case rel => exact ⟨k + 1, rfl, by omega, by go_num, (rz.set k (-1)).congr (fun i _ => ngK_step k i), gtrans gw (grown_set _ _ _)⟩
    · obtain rfl : n = k := by omega
      have hpos : 0 < S.length := by
        have := HDF.out.head
        cases S with
        | nil => simp at this
        | cons a l => simp
      have hSn : S.length ≤ n := nodup_le n S HDF.out.sn HDF.out.sl
      obtain ⟨gs, caps, hvs, hcap, _⟩ := rN2.at_ 0 hpos
      subst hvs
      have hb3 : Below w.heap.size w wr := b2.trans ⟨gw.os, gw.tape, gw.output, gw.size, fun k hk => gw.block k (Nat.lt_of_lt_of_le hk b2.size) (by simp; omega)⟩
      have hs3 := hb3.size
      go_wp2_with (at_make; refine wpList_make_full _ (by rfl) _ _ 23 (by rfl) w.heap.size 3 i3 (.int .i64 0) 1 Try.underlying23 hi3 hz30 hz31 .i64 .i64 _ _ n (by rfl) (by rfl) (by rfl) (by rfl) (by rw [hz32]; omega) (by unfold maxLen; omega) hs3 ?_)
      intro w5 hown5 hgr5
      have hb5 : Below wr.heap.size wr w5 := (Below.refl _ _).grown hgr5 (Nat.le_refl _) (fun k hk => by cases hk)
      have e2 : ∀ k, k < W2.heap.size → k ≠ nx → w5.heap[k]? = W2.heap[k]? := fun k hk hn => (hb5.block k (Nat.lt_of_lt_of_le hk gw.size)).trans (gw.block k hk (by simpa using hn))
      have nsx : gs ≠ nx := fun e => nv (by rw [e]; rfl)
      have hgs2 := (World.ownsRow.lt rN2 gs rfl).2
      have hgk2 := rF2.lt.2
      have hsz2 := gw.size
      have pt : PT w w5 w.heap.size P kb nx wr.heap.size n s (.slice aA nA cA) (QV gs S.length caps) km S (nxK adj km S lab 0) (fun v => ((rkK S 0 v : Nat) : Int)) :=
        PT.congr ⟨(World.cell?_of_block (e2 P hPl nP)).trans p0, (World.cell?_of_block (e2 P hPl nP)).trans p1, (World.cell?_of_block (e2 P hPl nP)).trans p2, (World.cell?_of_block (e2 P hPl nP)).trans p3,
          rF2.of_block (e2 kb hgk2 nk), rN2.keep (fun k hk => by
            have hk' : gs = k := by simpa [Value.ownBlock] using hk
            rw [← hk']; exact e2 gs hgs2 nsx), rz.of_block (hb5.block _ rz.lt.2), RZ.made hown5, nP, by omega, nk, by omega, by have := rz.lt.2; omega, nv, (fun e => by
            have hk' : gs = wr.heap.size := by simpa [Value.ownBlock] using e
            omega), hb3.trans (hb5.mono hs3)⟩ (fun i hi => by simp [ngK, hi, nxK]) (fun i hi => by simp [rkK])
      have HPT := hide pt
      generalize wr.heap.size = rb at *
      clear pt hown5 hgr5 hb5 e2 rz rN2 rF2 gw hb3 c2 eP b2 rx p0 p1 p2 p3 hs3 hsz2 hgk2 hgs2
      go_wp2_with fail
      go_loopg [10, 11, 54] S.length (fun gg _ _ i wr => ∃ k : Nat, gg = S.length - k ∧ k ≤ S.length ∧ i = .int .i64 k ∧ PT w wr w.heap.size P kb nx rb n s (.slice aA nA cA) (QV gs S.length caps) km S (nxK adj km S lab 0) (fun v => ((rkK S k v : Nat) : Int)))
      case atStart => exact ⟨0, by omega, by omega, rfl, HPT.out⟩
      case round =>
        obtain ⟨k, hgk, hk, rfl, pt⟩ := hrel
        have HG2 := hide hgk
        clear hgk HPT
        by_cases hlt : k < S.length
        · have hcS := RN.atQ pt.s k hlt
          have hSk : S.getD k 0 < n := HDF.out.sl _ (by simp [hlt])
          have HStep := hide (show ∀ v, updZ (fun v => ((rkK S k v : Nat) : Int)) (S.getD k 0) (k : Int) v = ((rkK S (k + 1) v : Nat) : Int) from rkZ_step S k)
          generalize S.getD k 0 = nd at *
          have hc := pt.r.at_ nd hSk
          have hf := pt.r.fz nd
          have i1 : (0 : Int) ≤ (k : Int) := by omega
          have i2 : (k : Int) < (S.length : Int) := by omega
          have i3' : (0 : Int) ≤ (nd : Int) := by omega
          have i4 : (nd : Int) < (n : Int) := by omega
          go_wp2_with fail
          go_roundg (S.length - (k + 1))
          case measure => rw [HG2.out]; omega
          case rel => exact ⟨k + 1, rfl, by omega, by go_num, (pt.setR nd (k : Int)).congr (fun i _ => rfl) (fun i _ => HStep.out i)⟩
        · obtain rfl : k = S.length := by omega
          have HPT := hide (pt.congr (fun i _ => nxK_one adj km S lab i) (fun i _ => rfl))
          clear pt
          by_cases hc1 : caps = 1
          · have hS1 : S.length = 1 := by omega
            have HS1 := hide hS1
            subst hc1
            have k0 : ((S.length : Int)) = 1 := by omega
            clear hcap hS1
            go_wp2_with fail
            refine wp_loop_rounds 1 ?_
            rw [rounds_succ]
            go_wp2_with fail
            go_ret
            exact ⟨P, kb, nx, rb, QV gs S.length 1, km, S, rfl, HDF.out, _, HPT.out.congr (fun i _ => by rw [HS1.out]) (fun _ _ => rfl)⟩
          · have k1 : (1 : Int) ≤ (S.length : Int) := by omega
            have k2 : (S.length : Int) ≤ (caps : Int) := by omega
            have k3 : ¬ 1 = caps := by omega
            clear hpos
            go_wp2_with fail
            go_loopg [67] (S.length - 1) (fun gg i wr => ∃ k : Nat, gg = S.length - 1 - k ∧ k ≤ S.length - 1 ∧ i = .int .i64 k ∧ PT w wr w.heap.size P kb nx rb n s (.slice aA nA cA) (QV gs S.length caps) km S (nxK adj km S lab (k + 1)) (fun v => ((rk S v : Nat) : Int)))
            case atStart => exact ⟨0, by omega, by omega, rfl, HPT.out⟩
            case round =>
              obtain ⟨k, hgk, hk3, rfl, pt⟩ := hrel
              have HG3 := hide hgk
              clear hgk HPT
              by_cases hlt3 : k < S.length - 1
              · have hcS := RN.atQ pt.s (k + 1) (by omega)
                have hvS : S.getD (k + 1) 0 ∈ S := by simp [show k + 1 < S.length by omega]
                have hvn : S.getD (k + 1) 0 < n := HDF.out.sl _ hvS
                have hvs : S.getD (k + 1) 0 ≠ s := by
                  have hh := HDF.out.head
                  have e0 : S.getD 0 0 = s := by
                    cases S with
                    | nil => simp at hh
                    | cons a l => simpa using hh
                  have r1 := rkK_at HDF.out.sn S.length (Nat.le_refl _) 0 (by omega)
                  have r2 := rkK_at HDF.out.sn S.length (Nat.le_refl _) (k + 1) (by omega)
                  intro e
                  rw [e0] at r1
                  rw [e] at r2
                  omega
                have HBest := hide (best_is (lab := lab) HDF.out sy hvS hvs)
                have HStep := hide (nxZ_step adj km S lab k)
                have HNear := hide (fun j (hj : j < (adj (S.getD (k + 1) 0)).length) => HDF.out.near gr hvS hj)
                have HKv := (HDF.out.mem _ hvn).1 hvS
                generalize S.getD (k + 1) 0 = nd at *
                clear hvS hvs
                have hcS' : wr.cell? ⟨gs, 1 + k, none⟩ = some (.int .i64 (nd : Int)) := by rw [Nat.add_comm]; exact hcS
                obtain ⟨aa, cc, ea0, hadj⟩ := tp.v nd hvn
                have hdg := gr.d nd hvn
                have hdeg : 0 < (adj nd).length := by obtain ⟨j, _, hj, _⟩ := HBest.out; omega
                obtain ⟨b, off, e1, hbw, _⟩ := hadj 0 hdeg
                subst e1
                have HAdj := hide (show ∀ j, j < (adj nd).length → w.cell? ⟨b, off + j * 3, none⟩ = some (.int .i64 ((lk adj nd j).1 : Int)) ∧ w.cell? ⟨b, off + j * 3 + 1, none⟩ = some (.float .f64 (lk adj nd j).2.1) ∧ w.cell? ⟨b, off + j * 3 + 2, none⟩ = some (.int .i64 ((lk adj nd j).2.2 : Int)) from fun j hj => by
                  obtain ⟨b', off', e1, _, x1, x2, x3⟩ := hadj j hj
                  have e2 : b = b' ∧ off = off' := by simpa using e1
                  rw [e2.1, e2.2]; exact ⟨x1, x2, x3⟩)
                clear hadj
                have tcw : wr.cell? ⟨T, 2, none⟩ = _ := (pt.b.cell (p := ⟨T, 2, none⟩) hTl).trans tp.c
                have eaw : wr.cell? ⟨gL, nd, none⟩ = _ := (pt.b.cell (p := ⟨gL, nd, none⟩) tp.g).trans ea0
                have i1 : (0 : Int) ≤ (nd : Int) := by omega
                have i2 : (nd : Int) < (n : Int) := by omega
                have i5 : (k : Int) < (S.length : Int) - 1 := by omega
                have HPT2 := hide pt
                clear pt
                go_wp2_with fail
                go_loopg [14, 79] (adj nd).length (fun gg bv i wr => ∃ j : Nat, gg = (adj nd).length - j ∧ j ≤ (adj nd).length ∧ bv = bp b off (bst adj km S lab nd j) ∧ i = .int .i64 j ∧ PT w wr w.heap.size P kb nx rb n s (.slice aA nA cA) (QV gs S.length caps) km S (nxK adj km S lab (k + 1)) (fun v => ((rk S v : Nat) : Int)))
                case atStart => exact ⟨0, by omega, by omega, rfl, rfl, HPT2.out⟩
                case round =>
                  obtain ⟨j, hgk, hj, rfl, rfl, pt⟩ := hrel
                  have HG4 := hide hgk
                  clear hgk HPT2
                  have hszr := pt.b.size
                  have tcr : wr.cell? ⟨T, 2, none⟩ = _ := (pt.b.cell (p := ⟨T, 2, none⟩) hTl).trans tp.c
                  have ear : wr.cell? ⟨gL, nd, none⟩ = _ := (pt.b.cell (p := ⟨gL, nd, none⟩) tp.g).trans ea0
                  by_cases hlj : j < (adj nd).length
                  · obtain ⟨x1, x2, x3⟩ := HAdj.out j hlj
                    have y1 : wr.cell? ⟨b, off + j * 3, none⟩ = _ := (pt.b.cell (p := ⟨b, off + j * 3, none⟩) hbw).trans x1
                    have y2 : wr.cell? ⟨b, off + j * 3 + 1, none⟩ = _ := (pt.b.cell (p := ⟨b, off + j * 3 + 1, none⟩) hbw).trans x2
                    have y3 : wr.cell? ⟨b, off + j * 3 + 2, none⟩ = _ := (pt.b.cell (p := ⟨b, off + j * 3 + 2, none⟩) hbw).trans x3
                    obtain ⟨g1, g2, g3⟩ := gr.l nd hvn _ (lk_mem hlj)
                    have hnear := HNear.out j hlj
                    have HBs := hide (bst_step adj km S lab nd j)
                    have HCa : Hid (cand adj km S nd j = (decide (rk S (lk adj nd j).1 < rk S nd) && decide (addF (km (lk adj nd j).1) (lk adj nd j).2.1 = km nd))) := hide rfl
                    have HTk : Hid (∀ o, tkB adj lab nd j o = match o with | none => true | some b => nb lab (lk adj nd j).1 (lk adj nd b).1) := hide (fun o => by cases o <;> rfl)
                    have HBl := hide (show ∀ jb, bst adj km S lab nd j = some jb → jb < (adj nd).length from fun jb hh => by have := (bst_cand j jb hh).1; omega)
                    have HToN := hide (show ∀ jb, jb < (adj nd).length → (lk adj nd jb).1 < n from fun jb hh => (gr.l nd hvn _ (lk_mem hh)).1)
                    generalize cand adj km S nd j = ca at *
                    generalize tkB adj lab nd j = tkf at *
                    generalize bst adj km S lab nd j = bo at *
                    generalize lk adj nd j = lnk at *
                    obtain ⟨tt, kk, ar⟩ := lnk
                    simp only at y1 y2 y3 g1 g2 g3 hnear HCa HTk
                    clear x1 x2 x3
                    have hkf : kk < infW := Nat.lt_of_le_of_lt g3 (by decide)
                    have hadd := fun (wx : World) => run_float_arith (P := Try.prog) wx .add 41 .f64 (km tt) kk (addF (km tt) kk) (add_fin hnear hkf)
                    have hdle : addF (km tt) kk ≤ infW := by unfold addF; omega
                    generalize addF (km tt) kk = d at *
                    have l1 : (0 : Int) ≤ (j : Int) := by omega
                    have l2 : (j : Int) < ((adj nd).length : Int) := by omega
                    have l3 : (0 : Int) ≤ (tt : Int) := by omega
                    have l4 : (tt : Int) < (n : Int) := by omega
                    go_upto_region 21 with fail
                    obtain ⟨WA, hWA⟩ : ∃ WA, WA = wr.alloc (Obj.cells #[Value.int IntKind.i64 (tt : Int), Value.float FloatKind.f64 kk, Value.int IntKind.i64 (ar : Int)] 46) := ⟨_, rfl⟩
                    have hbA : Below wr.heap.size wr WA := by rw [hWA]; exact (Below.refl _ _).alloc (Nat.le_refl _) _
                    have u1 : WA.cell? ⟨wr.heap.size, 0, none⟩ = some (.int .i64 (tt : Int)) := by rw [hWA]; simp
                    have u2 : WA.cell? ⟨wr.heap.size, 1, none⟩ = some (.float .f64 kk) := by rw [hWA]; simp
                    rw [← hWA]
                    have ptA := pt.later hbA hszr
                    have hszA := ptA.b.size
                    generalize wr.heap.size = bl at *
                    clear hWA hbA y1 y2 y3 pt tcr ear
                    have r1 := ptA.r.at_ tt g1
                    have r2 := ptA.r.at_ nd hvn
                    have k1c := ptA.k.at_ tt g1
                    have k2c := ptA.k.at_ nd hvn
                    go_cut [108] (fun bb wx => bb = .bool (!ca) ∧ Below WA.heap.size WA wx)
                    case first =>
                      by_cases hr : rk S tt < rk S nd
                      · by_cases he : d = km nd
                        · obtain rfl : ca = true := by rw [HCa.out, decide_eq_true hr, decide_eq_true he]; rfl
                          have hor : (FloatKind.f64.format.order d (km nd) != some .eq) = false := by
                            have := ord_eq hdle (Nat.le_of_lt HKv)
                            rw [decide_eq_true he] at this
                            simp only [bne, Bool.not_eq_false']; exact this
                          have hri : (rk S tt : Int) < (rk S nd : Int) := by omega
                          clear he
                          go_quiet (fail)
                          go_wp2_with fail
                          go_meet
                          case rel => exact ⟨congrArg Value.bool (show _ = false from decide_eq_false (by omega)), below_drewN (Below.refl _ _) _⟩
                        · obtain rfl : ca = false := by rw [HCa.out, decide_eq_false he]; simp
                          have hor : (FloatKind.f64.format.order d (km nd) != some .eq) = true := by
                            have := ord_eq hdle (Nat.le_of_lt HKv)
                            rw [decide_eq_false he] at this
                            simp only [bne, Bool.not_eq_true']; exact this
                          have hri : (rk S tt : Int) < (rk S nd : Int) := by omega
                          clear he
                          go_quiet (fail)
                          go_wp2_with fail
                          go_meet
                          case rel => exact ⟨rfl, below_drewN (Below.refl _ _) _⟩
                      · obtain rfl : ca = false := by rw [HCa.out, decide_eq_false hr]; simp
                        have hri : ¬ (rk S tt : Int) < (rk S nd : Int) := by omega
                        go_quiet (fail)
                        go_wp2_with fail
                        go_meet
                        case rel => exact ⟨rfl, below_drewN (Below.refl _ _) _⟩
                    case rest =>
                      obtain ⟨rfl, hbd⟩ := hcut
                      have ptC := ptA.later hbd hszA
                      have v1 := cell_later hbd u1
                      have hszC := ptC.b.size
                      clear ptA u1 u2 r1 r2 k1c k2c hbd hszA hadd
                      cases ca with
                      | false =>
                        have HB2 := hide (show bst adj km S lab nd (j + 1) = bo by rw [HBs.out]; simp)
                        go_upto_if 108 with fail
                        go_wp2_with fail
                        go_roundg ((adj nd).length - (j + 1))
                        case measure => rw [HG4.out]; omega
                        case rel => exact ⟨j + 1, rfl, by omega, by rw [HB2.out], by go_num, ptC⟩
                      | true =>
                        have lbC := lb.later ptC.b
                        have tcC : wc.cell? ⟨T, 2, none⟩ = _ := (ptC.b.cell (p := ⟨T, 2, none⟩) hTl).trans tp.c
                        have eaC : wc.cell? ⟨gL, nd, none⟩ = _ := (ptC.b.cell (p := ⟨gL, nd, none⟩) tp.g).trans ea0
                        obtain ⟨tk, htk⟩ : ∃ tk : Bool, tkf bo = tk := ⟨_, rfl⟩
                        have HB2 := hide (show bst adj km S lab nd (j + 1) = if tk then some j else bo by rw [HBs.out, htk]; simp)
                        have HTk2 := hide htk
                        clear htk
                        go_upto_region 22 with fail
                        go_cut [120] (fun bb wx => bb = .bool tk ∧ Below wc.heap.size wc wx)
                        case first =>
                          cases bo with
                          | none =>
                            obtain rfl : tk = true := by rw [← HTk2.out, HTk.out none]
                            have hpn : bp b off none = .pointer none := rfl
                            rw [hpn]
                            go_quiet (fail)
                            go_wp2_with fail
                            go_meet
                            case rel => exact ⟨rfl, below_drewN (Below.refl _ _) _⟩
                          | some jb =>
                            have hjb := HBl.out jb rfl
                            obtain ⟨x1, _, _⟩ := HAdj.out jb hjb
                            have z1 : wc.cell? ⟨b, off + jb * 3, none⟩ = _ := (ptC.b.cell (p := ⟨b, off + jb * 3, none⟩) hbw).trans x1
                            have hpn : bp b off (some jb) = .pointer (some ⟨b, off + jb * 3, none⟩) := rfl
                            rw [hpn]
                            have htb := HToN.out jb hjb
                            have HTk3 := hide (show nb lab tt (lk adj nd jb).1 = tk by rw [← HTk2.out, HTk.out (some jb)])
                            generalize (lk adj nd jb).1 = tb at *
                            have HNb := hide (fun (wx : World) (hx : Below wc.heap.size wc wx) => nodeBefore_any T n tt tb lab al cl wx (lbC.later hx) g1 htb)
                            rw [HTk3.out] at HNb
                            clear x1
                            go_region_held3 (fun w' => Below wc.heap.size wc w' ∧ w'.cell? ⟨bl, 0, none⟩ = some (.int .i64 (tt : Int)) ∧ w'.cell? ⟨b, off + jb * 3, none⟩ = some (.int .i64 (tb : Int)))
                              (first | (exact ⟨(Below.refl _ _).drew, by go_keep⟩) | (go_split_ands; refine ⟨?_, ?_, ?_⟩ <;> first | exact cell_later hb (by assumption) | exact Below.trans (by assumption) (hb.mono (Below.size (by assumption)))))
                              (first | (go_at_call 20; refine (HNb.out _ (by go_split_ands; assumption)).mono ?_; rintro e w1 ⟨rfl, hb⟩))
                            go_wp2_with fail
                            go_meet
                            rename_i hHeld
                            exact ⟨rfl, hHeld.1⟩
                        case rest =>
                          obtain ⟨rfl, hbd⟩ := hcut
                          have ptD := ptC.later hbd hszC
                          have tcD := cell_later hbd tcC
                          have eaD := cell_later hbd eaC
                          clear ptC v1 hbd hszC tcC eaC lbC
                          cases tk with
                          | false =>
                            have HB3 := hide (show bst adj km S lab nd (j + 1) = bo by rw [HB2.out]; rfl)
                            go_upto_if 120 with fail
                            go_wp2_with fail
                            go_roundg ((adj nd).length - (j + 1))
                            case measure => rw [HG4.out]; omega
                            case rel => exact ⟨j + 1, rfl, by omega, by rw [HB3.out], by go_num, ptD⟩
                          | true =>
                            have HB3 := hide (show bst adj km S lab nd (j + 1) = some j by rw [HB2.out]; rfl)
                            go_upto_if 120 with fail
                            go_wp2_with fail
                            go_roundg ((adj nd).length - (j + 1))
                            case measure => rw [HG4.out]; omega
                            case rel => exact ⟨j + 1, rfl, by omega, by rw [HB3.out]; rfl, by go_num, ptD⟩
                  · obtain rfl : j = (adj nd).length := by omega
                    obtain ⟨jb, hbj, hjb, hcj⟩ := HBest.out
                    obtain ⟨x1, x2, x3⟩ := HAdj.out jb hjb
                    have y3 : wr.cell? ⟨b, off + jb * 3 + 2, none⟩ = _ := (pt.b.cell (p := ⟨b, off + jb * 3 + 2, none⟩) hbw).trans x3
                    have hbp : bp b off (bst adj km S lab nd (adj nd).length) = .pointer (some ⟨b, off + jb * 3, none⟩) := by rw [hbj]; rfl
                    rw [hbp]
                    have HNx := hide (show nxt adj km S lab nd = ((lk adj nd jb).2.2 : Int) by unfold nxt; rw [hbj])
                    generalize ((lk adj nd jb).2.2 : Int) = ar at *
                    have c2 := pt.p2
                    have hc := pt.x.at_ nd hvn
                    have hf := pt.x.fz nd
                    have hbx : b ≠ nx := by omega
                    have hPx := pt.xP
                    clear x1 x2 x3 hbj hcj hbp
                    go_upto_region 25 with fail
                    go_region
                    go_wp2_with fail
                    go_roundg (S.length - 1 - (k + 1))
                    case measure => rw [HG3.out]; omega
                    case rel => exact ⟨k + 1, rfl, by omega, by go_num, ((pt.setX nd ar).later (Below.refl _ _).drew (by simpa using hszr)).congr (fun i _ => by rw [← HNx.out]; exact HStep.out i) (fun _ _ => rfl)⟩
              · obtain rfl : k = S.length - 1 := by omega
                go_wp2_with fail
                go_ret
                rw [show S.length - 1 + 1 = S.length by omega] at pt
                exact ⟨P, kb, nx, rb, QV gs S.length caps, km, S, rfl, HDF.out, _, pt⟩
end Go.Proofs.Qxb6628650a
