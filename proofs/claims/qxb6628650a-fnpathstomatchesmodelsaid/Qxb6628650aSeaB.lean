/-
  Topology.search (seat b6628650a): the walk.
-/
import Derived.Test.Qxb6628650aSea
namespace Go.Proofs.Qxb6628650a
open Go.RowKit
set_option linter.unusedVariables false
attribute [local go_sem ↓] Go.wp_at_zero Go.wp_at_succ

def km0 (k v : Nat) : Nat := if v < k then infW else 0
def kmS (s v : Nat) : Nat := if v = s then 0 else infW
theorem km0_step (k i : Nat) : upd (km0 k) k infW i = km0 (k + 1) i := by
  unfold upd km0
  by_cases c : i = k
  · rw [if_pos c, if_pos (by omega)]
  · rw [if_neg c]
    by_cases d : i < k
    · rw [if_pos d, if_pos (by omega)]
    · rw [if_neg d, if_neg (by omega)]
theorem kmS_is (n s i : Nat) (hi : i < n) : upd (km0 n) s 0 i = kmS s i := by
  unfold upd km0 kmS
  rw [if_pos hi]

theorem Qs.start (W : World) (B s : Nat) (hB : B ≤ W.heap.size) : Qs ((W.alloc (Obj.cells #[Value.int IntKind.i64 (s : Int), Value.float FloatKind.f64 0] 62)).alloc (Obj.cells #[Value.slice (some ⟨W.heap.size, 0, none⟩) 1 1] 64)) B (W.heap.size + 1) W.heap.size 1 [(s, 0)] := by
  have hs : (W.alloc (Obj.cells #[Value.int IntKind.i64 (s : Int), Value.float FloatKind.f64 0] 62)).heap.size = W.heap.size + 1 := by simp
  refine ⟨?_, ?_, ⟨rfl, .inr ⟨W.heap.size, 1, #[Value.int IntKind.i64 (s : Int), Value.float FloatKind.f64 0], rfl, hB, ?_, by simp, by unfold maxLen; omega, rfl, rfl⟩⟩, by omega, by omega⟩
  · have := World.cell?_alloc_new (W.alloc (Obj.cells #[Value.int IntKind.i64 (s : Int), Value.float FloatKind.f64 0] 62)) #[Value.slice (some ⟨W.heap.size, 0, none⟩) 1 1] 64 0
    rw [hs] at this
    rw [this]; rfl
  · have := heap_alloc_new (W.alloc (Obj.cells #[Value.int IntKind.i64 (s : Int), Value.float FloatKind.f64 0] 62)) (Obj.cells #[Value.slice (some ⟨W.heap.size, 0, none⟩) 1 1] 64)
    rw [hs] at this
    unfold World.frozen?
    rw [this]
    rfl
  · rw [heap_alloc_old _ _ (by rw [hs]; omega), heap_alloc_new]

theorem SS.start (w W : World) (n s : Nat) (hk : RF W w.heap.size w.heap.size n (kmS s)) (hb : Below w.heap.size w W) : SS w ((W.alloc (Obj.cells #[Value.int IntKind.i64 (s : Int), Value.float FloatKind.f64 0] 62)).alloc (Obj.cells #[Value.slice (some ⟨W.heap.size, 0, none⟩) 1 1] 64)) w.heap.size w.heap.size (W.heap.size + 1) W.heap.size 1 n (.slice none 0 0) (kmS s) [] [(s, 0)] := by
  have hB := hb.size
  have lt := hk.lt.2
  have b2 : Below W.heap.size W ((W.alloc (Obj.cells #[Value.int IntKind.i64 (s : Int), Value.float FloatKind.f64 0] 62)).alloc (Obj.cells #[Value.slice (some ⟨W.heap.size, 0, none⟩) 1 1] 64)) := ((Below.refl _ _).alloc (Nat.le_refl _) _).alloc (by simp) _
  exact ⟨hk.of_block (b2.block _ lt), World.ownsRow_nil _ _ _ _, Qs.start W _ s hB, by omega, by omega, (fun h => by cases h), (fun h => by cases h), (fun h => by cases h), hb.trans (b2.mono hB)⟩

/-- The inner loop's state. -/
structure InL (w wr : World) (n s : Nat) (adj : Nat → List Lk) (F : Nat) (S : List Nat) (x : Nat × Nat) (km : Nat → Nat) (q' : QL) (bx ga capa k g2 cap2 : Nat) (km2 : Nat → Nat) (q2 : QL) : Prop where
  ss : SS w wr w.heap.size w.heap.size F g2 cap2 n (.slice (some ⟨ga, 0, none⟩) (S.length + 1) capa) km2 (S ++ [x.1]) q2
  dx : DX n s adj km2 (S ++ [x.1]) q2 x.1 k
  hp : Heap q2 q2.length
  ql : q2.length ≤ q'.length + k
  kx : km2 x.1 = km x.1
  mx : ∀ v ∈ S ++ [x.1], km2 v ≤ km2 x.1
  ub : V (km2 x.1) ≤ ((S ++ [x.1]).length - 1) * U
  y1 : wr.cell? ⟨bx, 0, none⟩ = some (.int .i64 (x.1 : Int))
  y2 : wr.cell? ⟨bx, 1, none⟩ = some (.float .f64 x.2)
  ng : bx ≠ g2

def SeaPost (w w' : World) (n s : Nat) (adj : Nat → List Lk) (e : Ending) : Prop :=
  ∃ gk vs km S, e = .returned (.tuple #[QV gk n n, vs]) ∧ DF n s adj km S ∧ RF w' w.heap.size gk n km ∧ RN w' w.heap.size vs S ∧ vs.ownBlock ≠ some gk ∧ Below w.heap.size w w'

set_option maxRecDepth 100000 in
set_option maxHeartbeats 8000000 in
theorem search_any (T n s : Nat) (adj : Nat → List Lk) (gL capL : Nat) (w : World) (tp : Tp w T n adj gL capL) (gr : Gr n s adj) :
    Calls Try.prog 19 #[.pointer (some ⟨T, 0, none⟩), .int .i64 s, .nilFunc] w fun e w' => SeaPost w w' n s adj e := by
  obtain ⟨i0, hi0, hz0, hz1, hz2⟩ := info_parts info41
  obtain ⟨i3, hi3, hz30, hz31, hz32⟩ := info_parts info3
  have hsn := gr.hs
  have hn := gr.hn
  have tc := tp.c
  have htL := World.block_lt_of_cell? _ _ tc
  go_enter Try.func19, Try.ntmps19
  go_wp2_with (at_make; refine wpList_make_full _ (by rfl) _ _ 24 (by rfl) w.heap.size 41 i0 (.float .f64 0) 1 Try.underlying24 hi0 hz0 hz1 .i64 .i64 _ _ n (by rfl) (by rfl) (by rfl) (by rfl) (by rw [hz2]; omega) (by unfold maxLen; omega) (Nat.le_refl _) ?_)
  intro w1 hown1 hgr1
  have rk0 := RF.made hown1
  have b1 : Below w.heap.size w w1 := (Below.refl _ _).grown hgr1 (Nat.le_refl _) (fun k hk => by cases hk)
  clear hown1 hgr1
  have HInf := hide (fun wx => inf_any wx)
  go_wp2_with fail
  go_loopg [8, 22] n (fun gg _ i wr => ∃ k : Nat, gg = n - k ∧ k ≤ n ∧ i = .int .i64 k ∧ RF wr w.heap.size w.heap.size n (km0 k) ∧ Below w.heap.size w wr)
  case atStart => exact ⟨0, by omega, by omega, rfl, rk0.congr (fun i _ => by simp [km0]), b1⟩
  case round =>
    obtain ⟨k, hgk, hk, rfl, rk, br⟩ := hrel
    have HG := hide hgk
    clear hgk
    by_cases hlt : k < n
    · have hc := rk.at_ k hlt
      have hf := rk.fz k
      have i1 : (0 : Int) ≤ (k : Int) := by omega
      have i2 : (k : Int) < (n : Int) := by omega
      go_wp2_with fail
      refine (HInf.out _).mono ?_
      rintro e wi ⟨rfl, rfl⟩
      go_wp2_with fail
      go_roundg (n - (k + 1))
      case measure => rw [HG.out]; omega
      case rel =>
        exact ⟨k + 1, rfl, by omega, by go_num, (rk.set k infW).congr (fun i _ => km0_step k i), br.setCell (Nat.le_refl _) _⟩
    · obtain rfl : n = k := by omega
      have hc := rk.at_ s hsn
      have hf := rk.fz s
      have i1 : (0 : Int) ≤ (s : Int) := by omega
      have i2 : (s : Int) < (n : Int) := by omega
      have hszr := br.size
      have hgkl := rk.lt.2
      go_upto_region 8 with fail
      have rk2 := (rk.set s 0).congr (fun i hi => kmS_is n s i hi)
      have br2 := br.setCell (p := ⟨w.heap.size, s, none⟩) (Nat.le_refl _) (.float .f64 0)
      obtain ⟨W, hW⟩ : ∃ W, W = wr.setCell ⟨w.heap.size, s, none⟩ (.float .f64 0) := ⟨_, rfl⟩
      rw [← hW] at rk2 br2 ⊢
      clear hW rk br hc hf
      have s0 := SS.start w W n s rk2 br2
      have d0 : DX n s adj (kmS s) [] [(s, 0)] 0 (adj 0).length := DX.start gr 0 _
      have hh0 : Heap [(s, 0)] [(s, 0)].length := fun c h1 h2 => by simp at h2; omega
      have hWs := br2.size
      go_upto_block 2 with fail
      obtain ⟨W2, hW2⟩ : ∃ W2, W2 = (W.alloc (Obj.cells #[Value.int IntKind.i64 (s : Int), Value.float FloatKind.f64 0] 62)).alloc (Obj.cells #[Value.slice (some ⟨W.heap.size, 0, none⟩) 1 1] 64) := ⟨_, rfl⟩
      rw [← hW2] at s0 ⊢
      generalize hF : W.heap.size + 1 = F at *
      clear hW2 rk2 br2 hF
      have HGr := hide gr
      go_wp2_with fail
      go_loopg [7] (n * 1000000000 + 1) (fun gg vs wr => ∃ (g cap u : Nat) (km : Nat → Nat) (S : List Nat) (q : QL), gg = (n - S.length) * 1000000000 + q.length ∧ SS w wr w.heap.size w.heap.size F g cap n vs km S q ∧ DX n s adj km S q u (adj u).length ∧ Heap q q.length ∧ q.length ≤ 1 + S.length * 10000)
      case atStart => exact ⟨_, _, _, _, _, _, by simp, s0, d0, hh0, by simp⟩
      case round =>
        obtain ⟨g, cap, u, km, S, q, hgg, ss, dx, hh, hql⟩ := hrel
        have HG2 := hide hgg
        have HD := hide dx
        have HH := hide hh
        have hSl : S.length ≤ n := nodup_le n S dx.sn (fun v hv => (dx.sl v hv).1)
        have HK := hide (show ∀ e ∈ q, e.2 ≤ infW from fun e he => Nat.le_of_lt (dx.ql e he).2.1)
        clear hgg dx hh s0 d0 hh0
        have c0 := ss.q.c
        have hbs := ss.b.size
        by_cases hq0 : 0 < q.length
        · have HPop := hide (hpop_any w.heap.size F g cap q wr ss.q hq0 (by omega) HH.out HK.out)
          have q1 : (0 : Int) < (q.length : Int) := by omega
          go_wp2_with fail
          refine (len_any _ _ _ _).mono ?_
          rintro e wl ⟨rfl, rfl⟩
          go_wp2_with fail
          refine HPop.out.mono ?_
          rintro e w5 ⟨x, q', rfl, hperm, hmin, hh', hq5, hfr5⟩
          have ss5 := ss.queue hq5 hfr5 hbs
          have hl5 : q'.length + 1 = q.length := by have := hperm.length_eq; simpa using this
          have HL5 := hide hl5
          have HP5 := hide hperm
          have HM5 := hide hmin
          have HH5 := hide hh'
          have hql5 : q'.length + 1 ≤ 1 + S.length * 10000 := by omega
          have hxq := HD.out.ql x (hperm.mem_iff.1 (by simp))
          have hsz5 := ss5.b.size
          have hta : ∀ w : World, (Instr.typeAssert (EV x) 20 62 false).run Try.prog w = .ok (.agg #[.int .i64 (x.1 : Int), .float .f64 x.2]) w := fun _ => by kernel_rfl
          clear HPop ss c0 hl5 hperm hmin hh' hq5 hfr5 q1 hql HH HK
          go_upto_region 11 with fail
          obtain ⟨W6, hW6⟩ : ∃ W6, W6 = w5.alloc (Obj.cells #[Value.int IntKind.i64 (x.1 : Int), Value.float FloatKind.f64 x.2] 62) := ⟨_, rfl⟩
          have hb6 : Below w5.heap.size w5 W6 := by rw [hW6]; exact (Below.refl _ _).alloc (Nat.le_refl _) _
          have y1 : W6.cell? ⟨w5.heap.size, 0, none⟩ = some (.int .i64 (x.1 : Int)) := by rw [hW6]; simp
          have y2 : W6.cell? ⟨w5.heap.size, 1, none⟩ = some (.float .f64 x.2) := by rw [hW6]; simp
          rw [← hW6]
          have ss6 := ss5.later hb6 hsz5
          have nk : w5.heap.size ≠ w.heap.size := by have := ss5.k.lt.2; omega
          have nF : w5.heap.size ≠ F := by have := ss5.q.lt; omega
          have ng : w5.heap.size ≠ g := by have := ss5.q.r.lt.2; omega
          have nv : u7.ownBlock ≠ some w5.heap.size := fun e => by have := (World.ownsRow.lt ss5.s _ e).2; omega
          have hsz6 := ss6.b.size
          generalize w5.heap.size = bx at *
          clear hW6 hb6 ss5 hsz5
          have ck := ss6.k.at_ x.1 hxq.1
          have i1 : (0 : Int) ≤ (x.1 : Int) := by omega
          have i2 : (x.1 : Int) < (n : Int) := by have := hxq.1; omega
          have hkx : km x.1 ≤ infW := by omega
          by_cases hsk : km x.1 < x.2
          · have hor : (FloatKind.f64.format.order x.2 (km x.1) == some .gt) = true := (ord_gt (Nat.le_of_lt hxq.2.1) hkx).trans (decide_eq_true hsk)
            have HD6 := hide (HD.out.skip HP5.out hsk)
            clear hsk
            go_quiet (fail)
            go_wp2_with fail
            go_roundg ((n - S.length) * 1000000000 + q'.length)
            case measure => rw [HG2.out]; have := HL5.out; omega
            case rel => exact ⟨g, cap, u, km, S, q', rfl, ss6.later (below_drewN (Below.refl _ _) _) hsz6, HD6.out, HH5.out, by omega⟩
          · have hor : (FloatKind.f64.format.order x.2 (km x.1) == some .gt) = false := (ord_gt (Nat.le_of_lt hxq.2.1) hkx).trans (decide_eq_false hsk)
            have HSt := hide (HD.out.settle HP5.out hsk HM5.out)
            clear hsk
            go_quiet (fail)
            obtain ⟨W7, hW7⟩ : ∃ W7, W7 = W6.drewN nq := ⟨_, rfl⟩
            have hb7 : Below W6.heap.size W6 W7 := by rw [hW7]; exact below_drewN (Below.refl _ _) _
            rw [← hW7]
            have ss7 := ss6.later hb7 hsz6
            have z1 := cell_later hb7 y1
            have z2 := cell_later hb7 y2
            have hsz7 := ss7.b.size
            have hbx7 := World.block_lt_of_cell? _ _ z1
            clear hW7 hb7 ss6 y1 y2 hsz6 ck hor
            go_wp2_with (at_builtin; refine wpList_append_lies _ (by rfl) _ _ 23 (by rfl) w.heap.size 3 i3 (.int .i64 0) 1 8 Try.underlying23 hi3 hz30 hz31 hz32 rfl (by omega) u7 S.length (IN S) (by rfl) (World.ownsRow.alloc ss7.s _) ⟨W7.heap.size, 0, none⟩ 1 1 [.int .i64 (x.1 : Int)] (by rfl) (by rfl) ?c1 ?c2 (by omega) ?c3 ?c4 ?c5 (W7.heap.size + 1) ?c6 ?_)
            case c2 => rfl
            case c3 => unfold maxLen; omega
            case c4 => omega
            case c5 => omega
            intro ga capa w8 howna hgra hata hlta
            have ss8 := ss7.app hsz7 howna hgra hata
            have eb : w8.heap[bx]? = W7.heap[bx]? := by
              rw [hgra.block bx (by simp; omega) (fun e => nv e.symm)]
              exact heap_alloc_old _ _ hbx7
            have x1c : w8.cell? ⟨bx, 0, none⟩ = _ := (World.cell?_of_block eb).trans z1
            have x2c : w8.cell? ⟨bx, 1, none⟩ = _ := (World.cell?_of_block eb).trans z2
            have tp8 := tp.later ss8.b
            have tc8 := tp8.c
            obtain ⟨aa, cc, ea0, hadj⟩ := tp.v x.1 hxq.1
            have HAdj := hide hadj
            have ea : w8.cell? ⟨gL, x.1, none⟩ = _ := (ss8.b.cell (p := ⟨gL, x.1, none⟩) tp.g).trans ea0
            have hsz8 := ss8.b.size
            obtain ⟨d0, hmx, hub, hx2⟩ := HSt.out
            have HD8 := hide d0
            have HMx := hide hmx
            have HUb := hide (show V (km x.1) ≤ ((S ++ [x.1]).length - 1) * U by simpa using hub)
            have HX2 := hide hx2
            have hdeg := gr.d x.1 hxq.1
            have hgl8 := tp8.g
            clear howna hgra hata hlta ss7 z1 z2 hsz7 eb HSt d0 hmx hub hx2 hbx7
            have hSl2 : S.length + 1 ≤ n := by
              have := nodup_le n (S ++ [x.1]) HD8.out.sn (fun v hv => (HD8.out.sl v hv).1)
              simpa using this
            go_upto_region 13 with fail
            go_quiet (fail)
            obtain ⟨W9, hW9⟩ : ∃ W9, W9 = w8.drewN nq := ⟨_, rfl⟩
            have hb9 : Below w8.heap.size w8 W9 := by rw [hW9]; exact below_drewN (Below.refl _ _) _
            rw [← hW9]
            have ss9 := ss8.later hb9 hsz8
            have y1 := cell_later hb9 x1c
            have y2 := cell_later hb9 x2c
            clear hW9 ss8 x1c x2c tc8 tp8 hadj hb9 ea0 ea
            have h0 : InL w W9 n s adj F S x km q' bx ga capa 0 g cap km q' := ⟨ss9, HD8.out, HH5.out, by omega, rfl, HMx.out, HUb.out, y1, y2, ng⟩
            have H0 := hide h0
            clear h0 ss9 y1 y2
            go_wp2_with fail
            go_loopg [68] (adj x.1).length (fun gg i wr => ∃ (k g2 cap2 : Nat) (km2 : Nat → Nat) (q2 : QL), gg = (adj x.1).length - k ∧ k ≤ (adj x.1).length ∧ i = .int .i64 k ∧ InL w wr n s adj F S x km q' bx ga capa k g2 cap2 km2 q2)
            case atStart => exact ⟨0, g, cap, km, q', by omega, by omega, rfl, H0.out⟩
            case round =>
              obtain ⟨k, g2, cap2, km2, q2, hgk, hk2, rfl, inl⟩ := hrel
              have HG3 := hide hgk
              clear hgk H0
              by_cases hlk : k < (adj x.1).length
              · obtain ⟨b, off, e1, hbw, l1, l2, l3⟩ := HAdj.out k hlk
                subst e1
                obtain ⟨g1, g2', g3⟩ := gr.l x.1 hxq.1 _ (lk_mem hlk)
                have m1 : wr.cell? ⟨b, off + k * 3, none⟩ = _ := (inl.ss.b.cell (p := ⟨b, off + k * 3, none⟩) hbw).trans l1
                have m2 : wr.cell? ⟨b, off + k * 3 + 1, none⟩ = _ := (inl.ss.b.cell (p := ⟨b, off + k * 3 + 1, none⟩) hbw).trans l2
                have m3 : wr.cell? ⟨b, off + k * 3 + 2, none⟩ = _ := (inl.ss.b.cell (p := ⟨b, off + k * 3 + 2, none⟩) hbw).trans l3
                clear l1 l2 l3
                have HStay := hide (fun hd => inl.dx.stay (i := k) hd)
                have HRelax := hide (fun hd q3 hp => inl.dx.relax (q' := q3) HGr.out (by simp) inl.mx inl.ub hlk hd hp)
                have j1 : (0 : Int) ≤ (k : Int) := by omega
                have j2 : (k : Int) < ((adj x.1).length : Int) := by omega
                have hkx2 : km2 x.1 = x.2 := by rw [inl.kx, HX2.out]
                rw [hkx2] at HStay HRelax
                have HKx := hide hkx2
                clear hkx2
                generalize lk adj x.1 k = lnk at *
                obtain ⟨v, kk, ar⟩ := lnk
                simp only at g1 g2' g3 m1 m2 m3 HStay HRelax
                have hkf : kk < infW := Nat.lt_of_le_of_lt g3 (by decide)
                have hadd := fun (wx : World) => run_float_arith (P := Try.prog) wx .add 41 .f64 x.2 kk (addF x.2 kk) (add_fin hxq.2.1 hkf)
                have hdle : addF x.2 kk ≤ infW := by unfold addF; omega
                generalize addF x.2 kk = d at *
                have z1 := inl.y1
                have z2 := inl.y2
                have hszr2 := inl.ss.b.size
                have hbxl := World.block_lt_of_cell? _ _ z1
                have hnil : ∀ wx : World, (binOp .eql 58 .nilFunc .nilFunc).run Try.prog wx = .ok (.bool true) wx := fun _ => by kernel_rfl
                go_upto_region 16 with fail
                obtain ⟨WA, hWA⟩ : ∃ WA, WA = wr.alloc (Obj.cells #[Value.int IntKind.i64 (v : Int), Value.float FloatKind.f64 kk, Value.int IntKind.i64 (ar : Int)] 46) := ⟨_, rfl⟩
                have hbA : Below wr.heap.size wr WA := by rw [hWA]; exact (Below.refl _ _).alloc (Nat.le_refl _) _
                have u1 : WA.cell? ⟨wr.heap.size, 0, none⟩ = some (.int .i64 (v : Int)) := by rw [hWA]; simp
                have u2 : WA.cell? ⟨wr.heap.size, 1, none⟩ = some (.float .f64 kk) := by rw [hWA]; simp
                rw [← hWA]
                have ssA := inl.ss.later hbA hszr2
                have zA1 := cell_later hbA z1
                have zA2 := cell_later hbA z2
                have nlk : wr.heap.size ≠ w.heap.size := by have := inl.ss.k.lt.2; omega
                have hszA := ssA.b.size
                generalize wr.heap.size = bl at *
                clear hWA hbA z1 z2 m1 m2 m3 hbxl
                have cv := ssA.k.at_ v g1
                have fv := ssA.k.fz v
                have hkv := inl.dx.le v g1
                have p1 : (0 : Int) ≤ (v : Int) := by omega
                have p2 : (v : Int) < (n : Int) := by omega
                by_cases hd : d < km2 v
                · have hor : (FloatKind.f64.format.order d (km2 v) == some .lt) = true := (ord_lt hdle hkv).trans (decide_eq_true hd)
                  have ssB := ssA.setK v d
                  obtain ⟨WB, hWB⟩ : ∃ WB, WB = WA.setCell ⟨w.heap.size, v, none⟩ (.float .f64 d) := ⟨_, rfl⟩
                  rw [← hWB] at ssB
                  have hszB := ssB.b.size
                  have zB1 : WB.cell? ⟨bx, 0, none⟩ = some (.int .i64 (x.1 : Int)) := by rw [hWB, World.cell?_setCell_other _ _ _ _ (fun e => nk (congrArg Addr.block e).symm)]; exact zA1
                  have zB2 : WB.cell? ⟨bx, 1, none⟩ = some (.float .f64 x.2) := by rw [hWB, World.cell?_setCell_other _ _ _ _ (fun e => nk (congrArg Addr.block e).symm)]; exact zA2
                  have hbB := World.block_lt_of_cell? _ _ zB1
                  have hqlen := inl.ql
                  have HPu := hide (hpush_any w.heap.size F g2 cap2 q2 (v, d) WB ssB.q hszB (by omega) inl.hp (fun e he => Nat.le_of_lt (inl.dx.ql e he).2.1) hdle)
                  rw [hWB] at HPu
                  have HR2 := hide (HRelax.out hd)
                  clear hd
                  go_wp2_with fail
                  refine HPu.out.mono ?_
                  rintro e wB ⟨rfl, g3n, cap3, q3, hp3, hheap3, hq3, hfr3⟩
                  rw [← hWB] at hfr3
                  have ssC := ssB.queue hq3 hfr3 hszB
                  obtain ⟨r1, r2, r3, r4⟩ := HR2.out q3 hp3
                  have zC1 : wB.cell? ⟨bx, 0, none⟩ = _ := (World.cell?_of_block (hfr3.block bx hbB nF inl.ng)).trans zB1
                  have zC2 : wB.cell? ⟨bx, 1, none⟩ = _ := (World.cell?_of_block (hfr3.block bx hbB nF inl.ng)).trans zB2
                  have hng : bx ≠ g3n := fun e => by
                    rcases hfr3.lies with l | l
                    · exact inl.ng (by rw [e, l])
                    · omega
                  have hlen3 : q3.length = q2.length + 1 := by have := hp3.length_eq; simpa using this
                  have hInl : InL w wB n s adj F S x km q' bx ga capa (k + 1) g3n cap3 (upd km2 v d) q3 := by
                    refine ⟨ssC, r1, hheap3, by omega, by rw [r3, HX2.out], fun y hy => ?_, ?_, zC1, zC2, hng⟩
                    · have hyv : y ≠ v := fun e => r2 (by rw [← e]; exact hy)
                      rw [upd_ne hyv, r3, ← HKx.out]; exact inl.mx y hy
                    · rw [r3, ← HKx.out]; exact inl.ub
                  have HInl := hide hInl
                  clear hInl ssC zC1 zC2 hng hlen3 r1 r2 r3 r4 hq3 hfr3
                  go_wp2_with fail
                  go_roundg ((adj x.1).length - (k + 1))
                  case measure => rw [HG3.out]; omega
                  case rel => exact ⟨k + 1, g3n, cap3, upd km2 v d, q3, rfl, by omega, by go_num, HInl.out⟩
                · have hor : (FloatKind.f64.format.order d (km2 v) == some .lt) = false := (ord_lt hdle hkv).trans (decide_eq_false hd)
                  have HS2 := hide (HStay.out hd)
                  clear hd
                  go_wp2_with fail
                  go_roundg ((adj x.1).length - (k + 1))
                  case measure => rw [HG3.out]; omega
                  case rel => exact ⟨k + 1, g2, cap2, km2, q2, rfl, by omega, by go_num, ssA, HS2.out, inl.hp, by have := inl.ql; omega, inl.kx, inl.mx, inl.ub, zA1, zA2, inl.ng⟩
              · obtain rfl : k = (adj x.1).length := by omega
                go_wp2_with fail
                go_roundg ((n - (S.length + 1)) * 1000000000 + q2.length)
                case measure =>
                  rw [HG2.out]
                  have := inl.ql
                  have : (n - (S.length + 1)) * 1000000000 + 1000000000 = (n - S.length) * 1000000000 := by rw [← Nat.succ_mul]; congr 1; omega
                  omega
                case rel => exact ⟨g2, cap2, x.1, km2, S ++ [x.1], q2, by simp, inl.ss, inl.dx, inl.hp, by have := inl.ql; simp; omega⟩
        · obtain rfl : q = [] := List.eq_nil_of_length_eq_zero (by omega)
          have HF := hide (HD.out.done HGr.out)
          go_wp2_with fail
          refine (len_any _ _ _ _).mono ?_
          rintro e wl ⟨rfl, rfl⟩
          go_wp2_with fail
          exact bodyPost_ret (v := .tuple #[QV w.heap.size n n, u7]) (by simp [results, Try.results19, go_sem]) rfl ⟨w.heap.size, u7, km, S, rfl, HF.out, ss.k, ss.s, ss.vk, ss.b⟩
end Go.Proofs.Qxb6628650a
