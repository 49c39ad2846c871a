/-
  zzBuild (seat b6628650a): the walk.
-/
import Derived.Test.Qxb6628650aGph
import Derived.Maps.OwnRows
import Derived.Maps.GroupsBeside
namespace Go.Proofs.Qxb6628650a
open Go.RowKit
open Go.WideMaps Go.Maps Go.ChangeMaps
set_option linter.unusedVariables false
attribute [local go_sem ↓] Go.wp_at_zero Go.wp_at_succ

/-- The arcs' cells. -/
def arcK (f t : Nat → Nat) : Nat → Nat → Int
  | 0 => fun _ => 0
  | k + 1 => updZ (updZ (updZ (updZ (arcK f t k) (2 * k * 2) (f k)) (2 * k * 2 + 1) (t k)) ((2 * k + 1) * 2) (t k)) ((2 * k + 1) * 2 + 1) (f k)

theorem Lks.start {w : World} {B gL n : Nat} (h : w.ownsRow B 44 1 (.slice (some ⟨gL, 0, none⟩) n n) n (madeCells #[Value.slice none 0 0] n).toList) : Lks w B gL n (fun _ => .slice none 0 0) (fun _ => []) := by
  have e : (madeCells #[Value.slice none 0 0] n).toList = (List.range n).map fun i => Value.slice none 0 0 := by
    rw [toList_madeCells_one]
    apply List.ext_getElem?
    intro i
    by_cases d : i < n
    · simp [d]
    · simp [d]
  rw [e] at h
  exact ⟨h, fun v hv => World.ownsRow_nil _ _ _ _, (fun v hv h => by cases h), (fun u v hu hv huv k hk => by cases hk)⟩

theorem RA.made {w : World} {B g k : Nat} (h : w.ownsRow B 40 2 (.slice (some ⟨g, 0, none⟩) k k) k (madeCells #[Value.int .i64 0, Value.int .i64 0] (k * 2)).toList) : RA w B g k (fun _ => 0) := by
  have e : (madeCells #[Value.int .i64 0, Value.int .i64 0] (k * 2)).toList = (List.range (k * 2)).map fun i => Value.int .i64 0 := by
    apply List.ext_getElem?
    intro i
    by_cases d : i < k * 2
    · rcases Nat.mod_two_eq_zero_or_one i with m | m
      · simp [madeCells, d, m]
      · simp [madeCells, d, m]
    · simp [madeCells, d]
  rw [e] at h
  exact h

theorem zero23 (w : World) : (zeroValue 23).run Try.prog w = .ok (.slice none 0 0) w := by kernel_rfl
theorem lawS : Keyed Try.prog 9 := string_keyed Try.underlying9

/-- append onto a slice of the call's own, at a step of a region that draws. -/
theorem step_append_at {P : Program} (w : World) {ops : Array Oper} {o : Oper} {a : Act} {K : Act → World → Prop} {Q : Exit → Act → World → Prop} {E : Prop} (hgd : o.guard = none) (s x : Operand) (t : TypeId)
    (ho : o.op = .call { callee := .builtin .append, args := #[s, x], argTypes := #[t, t] })
    (base : Nat) (e : TypeId) (i : TypeInfo) (z : Value) (size bytes : Nat) (ht : P.underlying t = some (.slice e)) (hi : P.info? e = some i) (hz : i.zero = some z)
    (hsize : i.size = size) (hby : i.bytes = bytes) (hzs : z.cells.size = size) (hsz : 0 < size)
    (v : Value) (n : Nat) (xs : List Value) (hs : a.eval s = v) (hown : w.ownsRow base e size v n xs)
    (ad : Addr) (m c : Nat) (news : List Value) (hx : a.eval x = .slice (some ad) m c) (hl : news.length = m * size) (hnews : ∀ j u, news[j]? = some u → w.cell? (ad.add j) = some u) (h1 : ∀ u ∈ news, u.oneCell' = true)
    (h63 : n + m ≤ maxLen) (hbytes : (n + m) * bytes ≤ 140737488355328) (hbase : base ≤ w.heap.size)
    (h : ∀ v' w', w'.ownsRow base e size v' (n + m) (xs ++ news) → w.grownBy w' v.ownBlock → (v'.ownBlock = v.ownBlock ∨ v'.ownBlock = some w.heap.size) → K (a.put o.dst v') w') :
    if Region.wanted o (yielded ops a.tmps) = true then Oper.wp P o a w K Q else E := by
  have hw : Region.wanted o (yielded ops a.tmps) = true := by simp [Region.wanted, hgd]
  rw [if_pos hw]
  obtain ⟨v', w', hrun, h1', h2', _, h3'⟩ := run_append_own_at (P := P) w base t o.type e i z size bytes ht hi hz hsize hby hzs hsz v n xs hown ad m c news hl hnews h1 h63 hbytes hbase
  unfold Oper.wp
  simp [execOp, ho, resolve, invoke, builtin, hs, hx, hrun, Result.andThen]
  exact h v' w' h1' h2' h3'

theorem World.ownsGroups.more {w : World} {k b n : Nat} {D : DataW Unit} (h : w.ownsGroups Try.prog 9 k 3 .i64 b n D) : w.ownsGroups Try.prog 9 k 3 .i64 b (n + 1) D := by
  obtain ⟨es, clock, a, F, hs, e, hb, hl, hap⟩ := h
  exact ⟨es, clock, a, F, by omega, e, hb, fun x hx zs hz => by have := hl x hx zs hz; omega, hap⟩

theorem grp_step {w0 w w1 : World} {x o n : Nat} {k : Int} {D : DataW Unit} {s : ByteArray} {u v : Value} {zs : List Int} {kl : Lit} (hnx : Below w0.heap.size w0 w) (hws : w0.heap.size + 1 ≤ w.heap.size) (hx : x < w0.heap.size) (y : w0.cell? ⟨x, o, none⟩ = some (.string s))
    (hoi : w.ownsInts (w0.heap.size + 1) 3 .i64 v zs) (hback : w.groupBack Try.prog 48 9 (w0.heap.size + 1) 3 .i64 w0.heap.size n D (.string s) kl v) (hzl : zs.length ≤ n) (hk : (Lit.int .i64 k).wf = true)
    (hg : w.grownBy w1 v.ownBlock) (hown : w1.ownsRow (w0.heap.size + 1) 3 1 u (zs.length + 1) (zs.map (Value.int .i64) ++ [.int .i64 k])) (hloc : u.ownBlock = v.ownBlock ∨ ∃ g, u.ownBlock = some g ∧ w.heap.size ≤ g) :
    w1.cell? ⟨x, o, none⟩ = some (.string s) ∧ ∃ w2, (Instr.mapUpdate 48 (.map (some w0.heap.size)) (.string s) u).run Try.prog w1 = .ok () w2 ∧ (∃ D', w2.ownsGroups (H := Unit) Try.prog 9 (w0.heap.size + 1) 3 .i64 w0.heap.size (n + 1) D') ∧ Below w0.heap.size w0 w2 ∧ w0.heap.size + 1 ≤ w2.heap.size := by
  have ho := hoi.appended hown hk
  obtain ⟨w2, hr, h1, h2⟩ := hback w1 u _ hg ho (by simp; omega) hloc
  have b1 : Below w0.heap.size w0 w1 := hnx.grown hg hnx.size (fun j hj => by have := (hoi.1.lt j hj).1; omega)
  exact ⟨(b1.cell (p := ⟨x, o, none⟩) hx).trans y, w2, hr, ⟨_, h1⟩, hnx.groups hoi hg h2 hnx.size (by omega) (Nat.le_refl _), by have := hg.size; have := h2.size; omega⟩

set_option maxRecDepth 100000 in
set_option maxHeartbeats 4000000 in
theorem build_any (a0 : Option Addr) (c0 : Nat) (v1 v2 v3 : Value) (n m : Nat) (lab : Nat → ByteArray) (f t x : Nat → Nat) (w : World) (h0 : Rd1 w (.slice a0 n c0) n (fun i => .string (lab i))) (h1 : Rd1 w v1 m (fun i => .int .i64 (f i : Int))) (h2 : Rd1 w v2 m (fun i => .int .i64 (t i : Int))) (h3 : Rd1 w v3 m (fun i => .float .f64 (x i)))
    (hn : n ≤ 256) (hm : m ≤ 4096) (hl : ∀ j, j < m → f j < n ∧ t j < n ∧ f j ≠ t j) (hsz : ∀ i, i < n → (lab i).size ≤ maxLen) :
    Calls Try.prog 9 #[.slice a0 n c0, v1, v2, v3] w fun e w' => ∃ T gL gA vv mp, e = .returned (.pointer (some ⟨T, 0, none⟩)) ∧ BS w w' w.heap.size gL gA n (2 * m) vv (adjK f t x m) (arcK f t m) ∧ w'.cell? ⟨T, 0, none⟩ = some (.slice a0 n c0) ∧ w'.cell? ⟨T, 1, none⟩ = some mp ∧ w'.cell? ⟨T, 2, none⟩ = some (QV gL n n) ∧ w'.cell? ⟨T, 3, none⟩ = some (QV gA (2 * m) (2 * m)) := by
  obtain ⟨i44, hi44, hz440, hz441, hz442⟩ := info_parts info44
  obtain ⟨i40, hi40, hz400, hz401, hz402⟩ := info_parts info40
  obtain ⟨i46, hi46, hz460, hz461, hz462⟩ := info_parts info46
  obtain ⟨i3, hi3, hz30, hz31, hz32⟩ := info_parts info3
  obtain ⟨_, _, e0, k0⟩ := id h0
  have hmm := @run_makeMap Try.prog
  cases e0
  have K0 := hide k0
  obtain ⟨a1, c1, rfl, k1⟩ := id h1
  obtain ⟨a2, c2, rfl, k2⟩ := id h2
  obtain ⟨a3, c3, rfl, k3⟩ := id h3
  have K1 := hide k1
  have K2 := hide k2
  have K3 := hide k3
  have HL := hide hl
  clear k0 k1 k2 k3 hl
  go_enter Try.func9, Try.ntmps9
  go_wp2_with (at_make; refine wpList_make_full _ (by rfl) _ _ 43 (by rfl) w.heap.size 44 i44 (.slice none 0 0) 1 Try.underlying43 hi44 hz440 hz441 .i64 .i64 _ _ n (by rfl) (by rfl) (by rfl) (by rfl) (by rw [hz442]; omega) (by unfold maxLen; omega) (Nat.le_refl _) ?_)
  intro w1 hown1 hgr1
  have s1 := hgr1.size
  have lt1 := (World.ownsRow.lt hown1 w.heap.size rfl).2
  go_wp2_with (at_make; refine wpList_make_full _ (by rfl) _ _ 37 (by rfl) w.heap.size 40 i40 (.agg #[.int .i64 0, .int .i64 0]) 2 Try.underlying37 hi40 hz400 hz401 .i64 .i64 _ _ (2 * m) (by rfl) (by rfl) (by omega) (by omega) (by rw [hz402]; omega) (by unfold maxLen; omega) s1 ?_)
  intro w2 hown2 hgr2
  have lt2 := (World.ownsRow.lt hown2 w1.heap.size rfl).2
  have b1 : Below w.heap.size w w1 := (Below.refl _ _).grown hgr1 (Nat.le_refl _) (fun k hk => by cases hk)
  have bs0 : BS w w2 w.heap.size w.heap.size w1.heap.size n (2 * m) (fun _ => .slice none 0 0) (adjK f t x 0) (arcK f t 0) :=
    ⟨(Lks.start hown1).later ((Below.refl _ _).grown hgr2 (Nat.le_refl _) (fun k hk => by cases hk)), RA.made hown2, by omega, (fun v hv h => by cases h), b1.grown hgr2 s1 (fun k hk => by cases hk)⟩
  have BS0 := hide bs0
  generalize w1.heap.size = gA at *
  clear bs0 hown1 hown2 hgr1 hgr2 b1 lt1 lt2 s1
  go_upto_block 0 with fail
  go_cut [13] (fun i wx => ∃ (vv : Nat → Value), BS w wx w.heap.size w.heap.size gA n (2 * m) vv (adjK f t x m) (arcK f t m))
  case first =>
    go_wp2_with fail
    go_loopg [13] m (fun gg i wr => ∃ (k : Nat) (vv : Nat → Value), gg = m - k ∧ k ≤ m ∧ i = .int .i64 k ∧ BS w wr w.heap.size w.heap.size gA n (2 * m) vv (adjK f t x k) (arcK f t k))
    case atStart => exact ⟨0, _, by omega, by omega, rfl, BS0.out⟩
    case round =>
      obtain ⟨k, vv, hgg, hk, rfl, bs⟩ := hrel
      have HG := hide hgg
      clear hgg BS0
      by_cases hlt : k < m
      · obtain ⟨x1, o1, rfl, hx1, y1⟩ := K1.out k hlt
        obtain ⟨x2, o2, rfl, hx2, y2⟩ := K2.out k hlt
        obtain ⟨x3, o3, rfl, hx3, y3⟩ := K3.out k hlt
        have z1 := (bs.b.cell (p := ⟨x1, o1 + k, none⟩) hx1).trans y1
        have z2 := (bs.b.cell (p := ⟨x2, o2 + k, none⟩) hx2).trans y2
        have z3 := (bs.b.cell (p := ⟨x3, o3 + k, none⟩) hx3).trans y3
        obtain ⟨l1, l2, l3⟩ := HL.out k hlt
        have HStep : Hid (adjK f t x (k + 1) = adjS (adjK f t x k) (f k) (t k) (x k) k ∧ arcK f t (k + 1) = updZ (updZ (updZ (updZ (arcK f t k) (2 * k * 2) (f k)) (2 * k * 2 + 1) (t k)) ((2 * k + 1) * 2) (t k)) ((2 * k + 1) * 2 + 1) (f k)) := hide ⟨rfl, rfl⟩
        have hlen := adjK_len f t x k
        generalize adjK f t x k = A at *
        generalize arcK f t k = R at *
        generalize f k = a at *
        generalize t k = b at *
        generalize x k = y at *
        have c1 := bs.a.at_ (2 * k * 2) (by omega)
        have c2 := bs.a.at_ (2 * k * 2 + 1) (by omega)
        have c3 := bs.a.at_ ((2 * k + 1) * 2) (by omega)
        have c4 := bs.a.at_ ((2 * k + 1) * 2 + 1) (by omega)
        have f1 := bs.a.fz (2 * k * 2)
        have f2 := bs.a.fz (2 * k * 2 + 1)
        have f3 := bs.a.fz ((2 * k + 1) * 2)
        have f4 := bs.a.fz ((2 * k + 1) * 2 + 1)
        have i1 : (0 : Int) ≤ (k : Int) := by omega
        have i2 : (k : Int) < (m : Int) := by omega
        have n1 : gA ≠ x1 := by have := bs.a.lt.1; omega
        have n2 : gA ≠ x2 := by have := bs.a.lt.1; omega
        have n3 : gA ≠ x3 := by have := bs.a.lt.1; omega
        go_upto_region 12 with fail
        have bsW := (((bs.setA (2 * k * 2) (a : Int)).setA (2 * k * 2 + 1) (b : Int)).setA ((2 * k + 1) * 2) (b : Int)).setA ((2 * k + 1) * 2 + 1) (a : Int)
        obtain ⟨W, hW⟩ : ∃ W, W = (((wr.setCell ⟨gA, 2 * k * 2, none⟩ (Value.int IntKind.i64 ↑a)).setCell ⟨gA, 2 * k * 2 + 1, none⟩ (Value.int IntKind.i64 ↑b)).setCell ⟨gA, (2 * k + 1) * 2, none⟩ (Value.int IntKind.i64 ↑b)).setCell ⟨gA, (2 * k + 1) * 2 + 1, none⟩ (Value.int IntKind.i64 ↑a) := ⟨_, rfl⟩
        rw [← hW] at bsW ⊢
        have u3 := (bsW.b.cell (p := ⟨x3, o3 + k, none⟩) hx3).trans y3
        have ca := bsW.l.at_ a l1
        have hszW := bsW.b.size
        have j1 : (0 : Int) ≤ (a : Int) := by omega
        have j2 : (a : Int) < (n : Int) := by omega
        have j3 : (0 : Int) ≤ (b : Int) := by omega
        have j4 : (b : Int) < (n : Int) := by omega
        have HMk := hide (fun (wx : World) => mk_any (b : Int) (2 * (k : Int)) y wx)
        have hla := hlen a
        clear hW bs c1 c2 c3 c4 f1 f2 f3 f4 z1 z2 z3 y1 y2 n1 n2 n3
        have hwr : IntKind.i64.wrap (2 * (k : Int)) = 2 * (k : Int) := by rw [IntKind.wrap_i64]; omega
        go_cut [] (fun wx => ∃ vv1, BS w wx w.heap.size w.heap.size gA n (2 * m) vv1 (updV A a (A a ++ [(b, y, 2 * k)])) (updZ (updZ (updZ (updZ R (2 * k * 2) (a : Int)) (2 * k * 2 + 1) (b : Int)) ((2 * k + 1) * 2) (b : Int)) ((2 * k + 1) * 2 + 1) (a : Int)))
        case first =>
         go_region_law (first
          | (refine step_append_lies _ (by rfl) _ _ 44 (by rfl) w.heap.size 46 i46 (.agg #[.int .i64 0, .float .f64 0, .int .i64 0]) 3 24 Try.underlying44 hi46 hz460 hz461 hz462 rfl (by omega) (vv a) (A a).length (flat3 (A a)) (by simp [Act.eval]) (World.ownsRow.alloc (own_keep (bsW.l.r a l1) (fun q hq => ((Below.refl _ _).drew.trans hbm).block q (bsW.l.own a l1 q hq).2)) _) ⟨wm.heap.size, 0, none⟩ 1 1 [.int .i64 (b : Int), .float .f64 y, .int .i64 (2 * (k : Int))] (by simp [Act.eval]) rfl (World.news_of_block (cs := #[.int .i64 (b : Int), .float .f64 y, .int .i64 (2 * (k : Int))]) (t := 46) (fr := (0, 0)) (heap_alloc_new wm _)) (fun u hu => by simp at hu; rcases hu with rfl | rfl | rfl <;> rfl) (by omega) (by unfold maxLen; omega) (by omega) (by have := hbm.size; simp at this ⊢; omega) (wm.heap.size + 1) (by simp) ?_; intro ga capa w3 howna hgra hata hlta; obtain ⟨q1, q2, q3⟩ := bsW.app (l := (b, y, 2 * k)) hszW l1 (((Below.refl _ _).drew.trans hbm).alloc ((Below.refl _ _).drew.trans hbm).size _) howna hgra (by simpa using hata))
          | (go_simp; refine (HMk.out _).mono ?_; rintro e wm ⟨rfl, hbm⟩; have cam := cell_later ((Below.refl _ _).drew.trans hbm) ca; have hlm := World.block_lt_of_cell? _ _ cam; dsimp only))
         all_goals (go_wp2_with fail; go_meet; exact ⟨_, q3⟩)
        case rest =>
          obtain ⟨vv1, bs1⟩ := hcut
          have HR2 := hide HStep.out.2
          have HA2 := hide (show adjK f t x (k + 1) = updV (updV A a (A a ++ [(b, y, 2 * k)])) b (updV A a (A a ++ [(b, y, 2 * k)]) b ++ [(a, y, 2 * k + 1)]) from HStep.out.1)
          have hlb : (updV A a (A a ++ [(b, y, 2 * k)]) b).length ≤ 2 * k + 1 := by
            by_cases c : b = a
            · exact absurd c.symm l3
            · rw [updV_ne c]; have := hlen b; omega
          generalize updV A a (A a ++ [(b, y, 2 * k)]) = A1 at *
          generalize updZ (updZ (updZ (updZ R (2 * k * 2) (a : Int)) (2 * k * 2 + 1) (b : Int)) ((2 * k + 1) * 2) (b : Int)) ((2 * k + 1) * 2 + 1) (a : Int) = R1 at *
          obtain ⟨WB, hWB⟩ : ∃ WB, WB = wc := ⟨_, rfl⟩
          subst hWB
          have u3' := (bs1.b.cell (p := ⟨x3, o3 + k, none⟩) hx3).trans y3
          have cb := bs1.l.at_ b l2
          have hszB := bs1.b.size
          have HMk2 := hide (fun (wx : World) => mk_any (a : Int) (2 * (k : Int) + 1) y wx)
          have hwr2 : IntKind.i64.wrap (2 * (k : Int) + 1) = 2 * (k : Int) + 1 := by rw [IntKind.wrap_i64]; omega
          clear bsW u3 ca hszW HMk HStep hla
          go_upto_region 13 with fail
          go_region_law (first
            | (refine step_append_lies _ (by rfl) _ _ 44 (by rfl) w.heap.size 46 i46 (.agg #[.int .i64 0, .float .f64 0, .int .i64 0]) 3 24 Try.underlying44 hi46 hz460 hz461 hz462 rfl (by omega) (vv1 b) (A1 b).length (flat3 (A1 b)) (by simp [Act.eval]) (World.ownsRow.alloc (own_keep (bs1.l.r b l2) (fun q hq => ((Below.refl _ _).drew.trans hbm).block q (bs1.l.own b l2 q hq).2)) _) ⟨wm.heap.size, 0, none⟩ 1 1 [.int .i64 (a : Int), .float .f64 y, .int .i64 (2 * (k : Int) + 1)] (by simp [Act.eval]) rfl (World.news_of_block (cs := #[.int .i64 (a : Int), .float .f64 y, .int .i64 (2 * (k : Int) + 1)]) (t := 46) (fr := (0, 0)) (heap_alloc_new wm _)) (fun u hu => by simp at hu; rcases hu with rfl | rfl | rfl <;> rfl) (by omega) (by unfold maxLen; omega) (by omega) (by have := hbm.size; simp at this ⊢; omega) (wm.heap.size + 1) (by simp) ?_; intro ga capa w3 howna hgra hata hlta; obtain ⟨q1, q2, q3⟩ := bs1.app (l := (a, y, 2 * k + 1)) hszB l2 (((Below.refl _ _).drew.trans hbm).alloc ((Below.refl _ _).drew.trans hbm).size _) howna hgra (by simpa using hata))
            | (go_simp; refine (HMk2.out _).mono ?_; rintro e wm ⟨rfl, hbm⟩; have cam := cell_later ((Below.refl _ _).drew.trans hbm) cb; have hlm := World.block_lt_of_cell? _ _ cam; dsimp only))
          all_goals
            go_wp2_with fail
            go_roundg (m - (k + 1))
            case measure => rw [HG.out]; omega
            case rel => exact ⟨k + 1, _, rfl, by omega, by go_num, by rw [HA2.out, HR2.out]; exact q3⟩
      · obtain rfl : k = m := by omega
        go_wp2_with fail
        go_meet
        exact ⟨_, bs⟩
  case rest =>
    obtain ⟨vv, bs⟩ := hcut
    have hBw := bs.b.size
    go_wp2_with fail
    go_loopg [17] n (fun gg i wr => ∃ (k : Nat) (D : DataW Unit), gg = n - k ∧ k ≤ n ∧ i = .int .i64 k ∧ wr.ownsGroups Try.prog 9 (wc.heap.size + 1) 3 .i64 wc.heap.size k D ∧ Below wc.heap.size wc wr ∧ wc.heap.size + 1 ≤ wr.heap.size)
    case atStart => exact ⟨0, _, by omega, by omega, rfl, World.ownsGroups_made _ _ _ _ _, (Below.refl _ _).alloc (Nat.le_refl _) _, by simp⟩
    case round =>
      obtain ⟨k, D, hgg, hk, rfl, hown, hnx, hws⟩ := hrel
      have HG := hide hgg
      clear hgg
      by_cases hlt : k < n
      · obtain ⟨x0, o0, rfl, hx0, y0⟩ := K0.out k hlt
        have y0' : wc.cell? ⟨x0, o0 + k, none⟩ = some (.string (lab k)) := (bs.b.cell (p := ⟨x0, o0 + k, none⟩) hx0).trans y0
        have hx0' : x0 < wc.heap.size := by omega
        have z0 := (hnx.cell (p := ⟨x0, o0 + k, none⟩) hx0').trans y0'
        have hs0 := hsz k hlt
        have i1 : (0 : Int) ≤ (k : Int) := by omega
        have i2 : (k : Int) < (n : Int) := by omega
        generalize lab k = s at *
        have hkey := keyOf_string_mk (P := Try.prog) Try.underlying9 hs0
        obtain ⟨v, zs, hrun, hat, hoi, hzl, hback⟩ := World.ownsGroups.at (w := wr.drew) (t := 48) (E := 23) hown lawS Try.underlying48 (zero23 _) (by unfold maxLen; omega) hkey
        have hownB : (wr.alloc (Obj.cells #[Value.int IntKind.i64 (k : Int)] 3)).drew.ownsGroups Try.prog 9 (wc.heap.size + 1) 3 .i64 wc.heap.size k D := World.ownsGroups.kept (w := wr.drew) hown (World.grownBy_alloc _ _ none) (by simp) (fun _ _ _ x _ => by cases x.val.ownBlock <;> simp)
        obtain ⟨vB, zsB, hrunB, hatB, hoiB, hzlB, hbackB⟩ := World.ownsGroups.at (t := 48) (E := 23) hownB lawS Try.underlying48 (zero23 _) (by unfold maxLen; omega) hkey
        clear hat hatB
        cases hse : s.toList.isEmpty
        case true =>
          go_wp2_with fail
          go_roundg (n - (k + 1))
          case measure => rw [HG.out]; omega
          case rel => exact ⟨k + 1, D, rfl, by omega, by go_num, World.ownsGroups.more hown, hnx, hws⟩
        case false =>
          have zA : wr.drew.cell? ⟨x0, o0 + k, none⟩ = some (.string s) := z0
          have zB : (wr.alloc (Obj.cells #[Value.int IntKind.i64 (k : Int)] 3)).cell? ⟨x0, o0 + k, none⟩ = some (.string s) := ((hnx.alloc hnx.size _).cell (p := ⟨x0, o0 + k, none⟩) hx0').trans y0'
          go_upto_region 19 with fail
          go_region_law (first
            | (refine step_append_at _ (by rfl) _ _ 23 (by rfl) (wc.heap.size + 1) 3 i3 (.int .i64 0) 1 8 Try.underlying23 hi3 hz30 hz31 hz32 rfl (by decide) v zs.length (zs.map (Value.int .i64)) (by rfl) (hoi.1.alloc _) ⟨wr.heap.size, 0, none⟩ 1 1 [.int .i64 k] (by simp [Act.eval]) rfl (cell_one_new _ _ _) (ints_oneCell .i64 [(k : Int)]) (by unfold maxLen; omega) (by omega) (by simp; omega) ?_; intro v' w3 hown3 hgr3 hloc3; obtain ⟨z3, w4, hrun4, ⟨D4, hown4⟩, hnx4, hws4⟩ := grp_step (w := wr.drew) hnx.drew hws hx0' y0' hoi hback hzl (WalkArith.wf_i64 (by omega)) ((World.grownBy_alloc wr.drew _ _).trans (show (wr.drew.alloc _).grownBy w3 _ from hgr3)) hown3 (hloc3.imp id (fun h => ⟨_, h, by simp⟩)))
            | (refine step_append_at _ (by rfl) _ _ 23 (by rfl) (wc.heap.size + 1) 3 i3 (.int .i64 0) 1 8 Try.underlying23 hi3 hz30 hz31 hz32 rfl (by decide) vB zsB.length (zsB.map (Value.int .i64)) (by rfl) (hoiB.1) ⟨wr.heap.size, 0, none⟩ 1 1 [.int .i64 k] (by simp [Act.eval]) rfl (cell_one_new _ _ _) (ints_oneCell .i64 [(k : Int)]) (by unfold maxLen; omega) (by omega) (by simp; omega) ?_; intro v' w3 hown3 hgr3 hloc3; obtain ⟨z3, w4, hrun4, ⟨D4, hown4⟩, hnx4, hws4⟩ := grp_step ((hnx.alloc hnx.size _).drew) (by simp; omega) hx0' y0' hoiB hbackB hzlB (WalkArith.wf_i64 (by omega)) hgr3 hown3 (hloc3.imp id (fun h => ⟨_, h, by simp⟩))))
          all_goals
            go_wp2_with fail
            go_roundg (n - (k + 1))
            case measure => rw [HG.out]; omega
            case rel => exact ⟨k + 1, _, rfl, by omega, by go_num, hown4, hnx4, hws4⟩
      · obtain rfl : k = n := by omega
        go_wp2_with (first | (go_at_call 18; refine (new_any _ _ _ _ _ _ _ _ _ _ _).mono ?_; rintro e wn ⟨rfl, rfl⟩) | fail)
        go_ret
        have hbw : Below wc.heap.size wc (wr.alloc (Obj.cells #[Value.slice a0 k c0, Value.map (some wc.heap.size), Value.slice (some ⟨w.heap.size, 0, none⟩) k k, Value.slice (some ⟨gA, 0, none⟩) (2 * m) (2 * m)] 53)) := hnx.alloc hnx.size _
        exact ⟨wr.heap.size, w.heap.size, gA, vv, .map (some wc.heap.size), rfl, bs.later hbw hBw, by simp, by simp, by simp [QV], by simp [QV]⟩
end Go.Proofs.Qxb6628650a
