/-
  zzModelKm (seat b6628650a): its memory, and the walk.
-/
import Derived.Test.Qxb6628650aPaB
import Derived.Test.Qxb6628650aPre
import Derived.Test.Qxb6628650aBFd
namespace Go.Proofs.Qxb6628650a
open Go.RowKit
set_option linter.unusedVariables false
attribute [local go_sem ↓] Go.wp_at_zero Go.wp_at_succ

theorem info4 : (Try.prog.info? 4).map (fun i => (i.zero, i.size, i.bytes)) = some (some (.bool false), 1, 1) := by kernel_rfl

/-- A row of bools. -/
abbrev RB (w : World) (B g n : Nat) (r : Nat → Bool) : Prop := w.ownsRow B 4 1 (QV g n n) n ((List.range n).map fun i => .bool (r i))
theorem RB.lt {w : World} {B g n : Nat} {p : Nat → Bool} (h : RB w B g n p) : B ≤ g ∧ g < w.heap.size := World.ownsRow.lt h g rfl
theorem RB.at_ {w : World} {B g n : Nat} {p : Nat → Bool} (h : RB w B g n p) (i : Nat) (hi : i < n) : w.cell? ⟨g, i, none⟩ = some (.bool (p i)) := by
  rw [World.ownsRow.cellAt h i (by omega)]; simp [hi]
theorem RB.fz {w : World} {B g n : Nat} {p : Nat → Bool} (h : RB w B g n p) (i : Nat) : w.frozen? ⟨g, i, none⟩ = false := World.ownsRow.frozenAt h i
theorem RB.of_block {w w' : World} {B g n : Nat} {p : Nat → Bool} (h : RB w B g n p) (e : w'.heap[g]? = w.heap[g]?) : RB w' B g n p := by
  refine ⟨h.1, ?_⟩
  rcases h.2 with ⟨a, _⟩ | ⟨g', cap', cur, a, b, c, d⟩
  · cases a
  · injection a with a1 _ a3
    injection a1 with a4
    injection a4 with a5 _ _
    subst a5
    exact .inr ⟨_, _, cur, by rw [a3], b, e.trans c, d⟩
theorem RB.set {w : World} {B g n : Nat} {p : Nat → Bool} (h : RB w B g n p) (j : Nat) (x : Bool) : RB (w.setCell ⟨g, j, none⟩ (.bool x)) B g n (fun v => if v = j then x else p v) := by
  have := (World.ownsRow.stored h j (.bool x)).1
  have e : ((List.range n).map fun i => Value.bool (if i = j then x else p i)) = ((List.range n).map fun i => Value.bool (p i)).set j (.bool x) := by
    apply List.ext_getElem?
    intro i
    rw [List.getElem?_set]
    by_cases c : j = i
    · subst c
      rw [if_pos rfl]
      by_cases d : j < n
      · simp [d]
      · simp [d]
    · rw [if_neg c]
      by_cases d : i < n
      · simp [d, Ne.symm c]
      · simp [d]
  unfold RB
  rw [e]
  exact this
theorem RB.made {w : World} {B g n : Nat} (h : w.ownsRow B 4 1 (.slice (some ⟨g, 0, none⟩) n n) n (madeCells #[Value.bool false] n).toList) : RB w B g n (fun _ => false) := by
  have e : (madeCells #[Value.bool false] n).toList = (List.range n).map fun i => Value.bool false := by
    rw [toList_madeCells_one]
    apply List.ext_getElem?
    intro i
    by_cases d : i < n
    · simp [d]
    · simp [d]
  unfold RB
  rw [← e]
  exact h

/-- The model's two rows in memory. -/
structure MS (w0 w : World) (B gr gd n : Nat) (st : BFs) : Prop where
  r : RB w B gr n st.reach
  d : RF w B gd n st.d
  ne : gr ≠ gd
  b : Below B w0 w
  le : ∀ v, st.d v ≤ infW

def BFs.start (s : Nat) : BFs := ⟨fun v => if v = s then true else false, fun _ => 0⟩

theorem MS.later {w0 w w' : World} {B gr gd n : Nat} {st : BFs} (h : MS w0 w B gr gd n st) (hb : Below w.heap.size w w') (hB : B ≤ w.heap.size) : MS w0 w' B gr gd n st :=
  ⟨h.r.of_block (hb.block _ h.r.lt.2), h.d.of_block (hb.block _ h.d.lt.2), h.ne, h.b.trans (hb.mono hB), h.le⟩
theorem MS.drew {w0 w : World} {B gr gd n : Nat} {st : BFs} (h : MS w0 w B gr gd n st) : MS w0 w.drew B gr gd n st := ⟨h.r, h.d, h.ne, h.b.drew, h.le⟩
theorem MS.sz {w0 w : World} {B gr gd n : Nat} {st : BFs} (h : MS w0 w B gr gd n st) : B ≤ w.heap.size := by
  have := h.r.lt; omega

/-- The model has come to its end. -/
def BFin (s n m : Nat) (f t x : Nat → Nat) (st : BFs) : Prop := ∃ r, st = (BFs.start s).rounds f t x m r ∧ (r = n ∨ st.pass f t x m = st)
/-- What zzModelKm leaves. -/
def MPost (w w' : World) (s n m : Nat) (f t x : Nat → Nat) (e : Ending) : Prop := ∃ gr gd st, e = .returned (.tuple #[QV gr n n, QV gd n n]) ∧ MS w w' w.heap.size gr gd n st ∧ BFin s n m f t x st

/-- Is the offer taken? -/
def BFs.takes (st : BFs) (a b k : Nat) : Bool := st.reach a && (!st.reach b || decide (addF (st.d a) k < st.d b))
theorem offer_yes {st : BFs} {a b k : Nat} (h : st.takes a b k = true) : st.offer a b k = ⟨fun v => if v = b then true else st.reach v, fun v => if v = b then addF (st.d a) k else st.d v⟩ := if_pos h
theorem offer_no {st : BFs} {a b k : Nat} (h : st.takes a b k = false) : st.offer a b k = st := by
  unfold BFs.offer
  rw [show (st.reach a && (!st.reach b || decide (addF (st.d a) k < st.d b))) = false from h]
  rfl
theorem MS.setD {w0 w : World} {B gr gd n : Nat} {st : BFs} (h : MS w0 w B gr gd n st) (b y : Nat) (hy : y ≤ infW) : MS w0 (w.setCell ⟨gd, b, none⟩ (.float .f64 y)) B gr gd n ⟨st.reach, fun v => if v = b then y else st.d v⟩ :=
  ⟨h.r.of_block (heap_setCell_other w ⟨gd, b, none⟩ gr _ h.ne), h.d.set b y, h.ne, h.b.setCell h.d.lt.1 _, fun v => by dsimp only; split; exact hy; exact h.le v⟩
theorem MS.setR {w0 w : World} {B gr gd n : Nat} {st : BFs} (h : MS w0 w B gr gd n st) (b : Nat) : MS w0 (w.setCell ⟨gr, b, none⟩ (.bool true)) B gr gd n ⟨fun v => if v = b then true else st.reach v, st.d⟩ :=
  ⟨h.r.set b true, h.d.of_block (heap_setCell_other w ⟨gr, b, none⟩ gd _ (fun e => h.ne e.symm)), h.ne, h.b.setCell h.r.lt.1 _, h.le⟩

set_option maxRecDepth 100000 in
set_option maxHeartbeats 4000000 in
theorem model_km (a1 a2 a3 : Option Addr) (c1 c2 c3 : Nat) (n m s : Nat) (f t x : Nat → Nat) (w : World) (h1 : Rd1 w (.slice a1 m c1) m (fun i => .int .i64 (f i : Int))) (h2 : Rd1 w (.slice a2 m c2) m (fun i => .int .i64 (t i : Int))) (h3 : Rd1 w (.slice a3 m c3) m (fun i => .float .f64 (x i)))
    (hn : n ≤ 256) (hm : m ≤ 4096) (hs : s < n) (hl : ∀ j, j < m → f j < n ∧ t j < n ∧ f j ≠ t j) (hx : ∀ j, j < m → x j < infW) :
    Calls Try.prog 8 #[.int .i64 n, .int .i64 s, .slice a1 m c1, .slice a2 m c2, .slice a3 m c3] w fun e w' => MPost w w' s n m f t x e := by
  obtain ⟨i4, hi4, hz40, hz41, hz42⟩ := info_parts info4
  obtain ⟨i41, hi41, hz410, hz411, hz412⟩ := info_parts info41
  have H1 := hide h1
  have H2 := hide h2
  have H3 := hide h3
  have HL := hide hl
  have HX := hide hx
  clear h1 h2 h3 hl hx
  have s1 : (0 : Int) ≤ (s : Int) := by omega
  have s2 : (s : Int) < (n : Int) := by omega
  go_enter Try.func8, Try.ntmps8
  go_wp2_with (at_make; refine wpList_make_full _ (by rfl) _ _ 27 (by rfl) w.heap.size 4 i4 (.bool false) 1 Try.underlying27 hi4 hz40 hz41 .i64 .i64 _ _ n (by rfl) (by rfl) (by rfl) (by rfl) (by rw [hz42]; omega) (by unfold maxLen; omega) (Nat.le_refl _) ?_)
  intro w1 hown1 hgr1
  have sz1 := hgr1.size
  have lt1 := (World.ownsRow.lt hown1 w.heap.size rfl).2
  go_wp2_with (at_make; refine wpList_make_full _ (by rfl) _ _ 24 (by rfl) w.heap.size 41 i41 (.float .f64 0) 1 Try.underlying24 hi41 hz410 hz411 .i64 .i64 _ _ n (by rfl) (by rfl) (by rfl) (by rfl) (by rw [hz412]; omega) (by unfold maxLen; omega) sz1 ?_)
  intro w2 hown2 hgr2
  have b1 : Below w.heap.size w w1 := (Below.refl _ _).grown hgr1 (Nat.le_refl _) (fun k hk => by cases hk)
  have ms0 : MS w w2 w.heap.size w.heap.size w1.heap.size n ⟨fun _ => false, fun _ => 0⟩ := by
    refine ⟨(RB.made (by simpa using hown1)).of_block (hgr2.block _ lt1 (by simp)), RF.made (by simpa using hown2), by omega, b1.grown hgr2 sz1 (fun k hk => by cases hk), fun v => Nat.zero_le _⟩
  generalize w1.heap.size = gd at *
  have cr : w2.cell? ⟨w.heap.size, s, none⟩ = some (.bool false) := ms0.r.at_ s hs
  have fr := ms0.r.fz s
  have MS0 : Hid (MS w (w2.setCell ⟨w.heap.size, s, none⟩ (.bool true)) w.heap.size w.heap.size gd n ((BFs.start s).rounds f t x m 0)) := hide (ms0.setR s)
  clear ms0 hown1 hown2 hgr1 hgr2 b1 sz1 lt1
  go_wp2_with fail
  go_loopg [14] n (fun gg i wr => ∃ r : Nat, gg = n - r ∧ r ≤ n ∧ i = .int .i64 r ∧ MS w wr w.heap.size w.heap.size gd n ((BFs.start s).rounds f t x m r))
  case atStart => exact ⟨0, by omega, by omega, rfl, MS0.out⟩
  case round =>
    obtain ⟨r, hgg, hr, rfl, ms⟩ := hrel
    have HG := hide hgg
    clear hgg MS0 cr fr s1 s2
    by_cases hlt : r < n
    · have HStep : Hid ((BFs.start s).rounds f t x m (r + 1) = ((BFs.start s).rounds f t x m r).pass f t x m) := hide rfl
      have HSt : Hid (∃ st, st = (BFs.start s).rounds f t x m r) := hide ⟨_, rfl⟩
      obtain ⟨st, hst⟩ := HSt.out
      rw [← hst] at ms HStep
      have HS := hide hst
      clear HSt hst
      go_upto_block 2 with fail
      go_cut [15, 16] (fun ch _ wx => ∃ cb : Bool, ch = .bool cb ∧ MS w wx w.heap.size w.heap.size gd n (st.pass f t x m) ∧ (cb = false → st.pass f t x m = st))
      case first =>
        go_wp2_with fail
        go_loopg [15, 16] m (fun gg ch j wx => ∃ (k : Nat) (cb : Bool), gg = m - k ∧ k ≤ m ∧ j = .int .i64 k ∧ ch = .bool cb ∧ MS w wx w.heap.size w.heap.size gd n (st.pass f t x k) ∧ (cb = false → st.pass f t x k = st))
        case atStart => exact ⟨0, false, by omega, by omega, rfl, rfl, ms, fun _ => rfl⟩
        case round =>
          obtain ⟨k, cb, hgg, hk, rfl, rfl, mk, hcb⟩ := hrel
          have HG2 := hide hgg
          have HCb := hide hcb
          clear hgg hcb ms
          by_cases hkm : k < m
          · obtain ⟨_, _, e1, k1⟩ := H1.out
            obtain ⟨_, _, e2, k2⟩ := H2.out
            obtain ⟨_, _, e3, k3⟩ := H3.out
            cases e1; cases e2; cases e3
            obtain ⟨x1, o1, rfl, hx1, y1⟩ := k1 k hkm
            obtain ⟨x2, o2, rfl, hx2, y2⟩ := k2 k hkm
            obtain ⟨x3, o3, rfl, hx3, y3⟩ := k3 k hkm
            clear k1 k2 k3
            have z1 : wr.cell? ⟨x1, o1 + k, none⟩ = some (.int .i64 (f k : Int)) := (mk.b.cell (p := ⟨x1, o1 + k, none⟩) hx1).trans y1
            have z2 : wr.cell? ⟨x2, o2 + k, none⟩ = some (.int .i64 (t k : Int)) := (mk.b.cell (p := ⟨x2, o2 + k, none⟩) hx2).trans y2
            replace y3 : w.cell? ⟨x3, o3 + k, none⟩ = some (.float .f64 (x k)) := y3
            obtain ⟨l1, l2, l3⟩ := HL.out k hkm
            have hxk := HX.out k hkm
            have HP : Hid (st.pass f t x (k + 1) = ((st.pass f t x k).offer (f k) (t k) (x k)).offer (t k) (f k) (x k)) := hide rfl
            generalize st.pass f t x k = P at *
            generalize f k = a at *
            generalize t k = b at *
            generalize x k = y at *
            have i1 : (0 : Int) ≤ (k : Int) := by omega
            have i2 : (k : Int) < (m : Int) := by omega
            have j1 : (0 : Int) ≤ (a : Int) := by omega
            have j2 : (a : Int) < (n : Int) := by omega
            have j3 : (0 : Int) ≤ (b : Int) := by omega
            have j4 : (b : Int) < (n : Int) := by omega
            go_upto_region 13 with fail
            clear z1 z2 y1 y2
            have hne : w.heap.size ≠ gd := mk.ne
            have ra := mk.r.at_ a l1
            have rb := mk.r.at_ b l2
            have da := mk.d.at_ a l1
            have db := mk.d.at_ b l2
            have z3 : wr.cell? ⟨x3, o3 + k, none⟩ = some (.float .f64 y) := (mk.b.cell (p := ⟨x3, o3 + k, none⟩) hx3).trans y3
            have HT : Hid (P.takes a b y = (P.reach a && (!P.reach b || decide (addF (P.d a) y < P.d b)))) := hide rfl
            have ad := fun (wx : World) => run_float_arith (P := Try.prog) wx .add 41 .f64 (P.d a) y (addF (P.d a) y) (add_le (mk.le a) hxk)
            have la := addF_le (P.d a) y
            have lb := mk.le b
            go_cut [71] (fun bb wx => bb = .bool (P.takes a b y) ∧ Below wr.heap.size wr wx)
            case first =>
              generalize P.takes a b y = tk at *
              generalize P.reach a = pa at *
              generalize P.reach b = pb at *
              generalize addF (P.d a) y = sa at *
              generalize P.d a = pda at *
              generalize P.d b = pdb at *
              cases pa with
              | false =>
                obtain rfl : tk = false := HT.out
                go_quiet (fail)
                go_wp2_with fail
                go_meet
                case rel => exact ⟨rfl, below_drewN (Below.refl _ _) _⟩
              | true =>
                cases pb with
                | false =>
                  obtain rfl : tk = true := HT.out
                  go_quiet (fail)
                  go_wp2_with fail
                  go_meet
                  case rel => exact ⟨rfl, below_drewN (Below.refl _ _) _⟩
                | true =>
                  obtain rfl : tk = decide (sa < pdb) := HT.out
                  have ho : (FloatKind.f64.format.order sa pdb == some .lt) = decide (sa < pdb) := ord_lt la lb
                  generalize decide (sa < pdb) = q at *
                  cases q with
                  | false =>
                    go_quiet (fail)
                    go_wp2_with fail
                    go_meet
                    case rel => exact ⟨rfl, below_drewN (Below.refl _ _) _⟩
                  | true =>
                    go_quiet (fail)
                    go_wp2_with fail
                    go_meet
                    case rel => exact ⟨rfl, below_drewN (Below.refl _ _) _⟩
            case rest =>
              obtain ⟨rfl, hbd⟩ := hcut
              have mk2 := mk.later hbd mk.sz
              clear ra rb da db z3 HT ad la lb mk hbd
              obtain ⟨WA, hWA⟩ : ∃ WA, WA = wc := ⟨_, rfl⟩
              subst hWA
              go_upto_if 71 with fail
              go_cut [15] (fun ch wx => ∃ c2 : Bool, ch = .bool c2 ∧ MS w wx w.heap.size w.heap.size gd n (P.offer a b y) ∧ (c2 = false → cb = false ∧ P.offer a b y = P))
              case first =>
                cases htk : P.takes a b y
                · have HO := hide (offer_no htk)
                  clear htk
                  go_upto_if 71 with fail
                  go_wp2_with fail
                  go_meet
                  case rel => exact ⟨cb, rfl, by rw [HO.out]; exact mk2, fun h => ⟨h, HO.out⟩⟩
                · have HO := hide (offer_yes htk)
                  clear htk
                  have rb := mk2.r.at_ b l2
                  have da := mk2.d.at_ a l1
                  have db := mk2.d.at_ b l2
                  have fb := mk2.d.fz b
                  have fr := mk2.r.fz b
                  have z3 : WA.cell? ⟨x3, o3 + k, none⟩ = some (.float .f64 y) := (mk2.b.cell (p := ⟨x3, o3 + k, none⟩) hx3).trans y3
                  have ad := fun (wx : World) => run_float_arith (P := Try.prog) wx .add 41 .f64 (P.d a) y (addF (P.d a) y) (add_le (mk2.le a) hxk)
                  have HM : Hid (MS w ((WA.setCell ⟨gd, b, none⟩ (.float .f64 (addF (P.d a) y))).setCell ⟨w.heap.size, b, none⟩ (.bool true)) w.heap.size w.heap.size gd n (P.offer a b y)) := hide (by rw [HO.out]; exact (mk2.setD b _ (addF_le _ _)).setR b)
                  generalize P.reach b = pb at *
                  generalize addF (P.d a) y = sa at *
                  generalize P.d a = pda at *
                  generalize P.d b = pdb at *
                  go_upto_region 14 with fail
                  go_region
                  all_goals
                    go_wp2_with fail
                    go_meet
                    exact ⟨true, rfl, HM.out.drew, fun h => by cases h⟩
              case rest =>
                obtain ⟨c2, rfl, mk3, hc2⟩ := hcut
                have HC2 := hide hc2
                clear mk2 hc2
                obtain ⟨WB, hWB⟩ : ∃ WB, WB = wc := ⟨_, rfl⟩
                subst hWB
                generalize P.offer a b y = P1 at *
                have ra := mk3.r.at_ b l2
                have rb := mk3.r.at_ a l1
                have da := mk3.d.at_ b l2
                have db := mk3.d.at_ a l1
                have z3 : WB.cell? ⟨x3, o3 + k, none⟩ = some (.float .f64 y) := (mk3.b.cell (p := ⟨x3, o3 + k, none⟩) hx3).trans y3
                have HT : Hid (P1.takes b a y = (P1.reach b && (!P1.reach a || decide (addF (P1.d b) y < P1.d a)))) := hide rfl
                have ad := fun (wx : World) => run_float_arith (P := Try.prog) wx .add 41 .f64 (P1.d b) y (addF (P1.d b) y) (add_le (mk3.le b) hxk)
                have la := addF_le (P1.d b) y
                have lb := mk3.le a
                go_upto_region 17 with fail
                go_cut [113] (fun bb wx => bb = .bool (P1.takes b a y) ∧ Below WB.heap.size WB wx)
                case first =>
                  generalize P1.takes b a y = tk at *
                  generalize P1.reach b = pa at *
                  generalize P1.reach a = pb at *
                  generalize addF (P1.d b) y = sa at *
                  generalize P1.d b = pda at *
                  generalize P1.d a = pdb at *
                  cases pa with
                  | false =>
                    obtain rfl : tk = false := HT.out
                    go_quiet (fail)
                    go_wp2_with fail
                    go_meet
                    case rel => exact ⟨rfl, below_drewN (Below.refl _ _) _⟩
                  | true =>
                    cases pb with
                    | false =>
                      obtain rfl : tk = true := HT.out
                      go_quiet (fail)
                      go_wp2_with fail
                      go_meet
                      case rel => exact ⟨rfl, below_drewN (Below.refl _ _) _⟩
                    | true =>
                      obtain rfl : tk = decide (sa < pdb) := HT.out
                      have ho : (FloatKind.f64.format.order sa pdb == some .lt) = decide (sa < pdb) := ord_lt la lb
                      generalize decide (sa < pdb) = q at *
                      cases q with
                      | false =>
                        go_quiet (fail)
                        go_wp2_with fail
                        go_meet
                        case rel => exact ⟨rfl, below_drewN (Below.refl _ _) _⟩
                      | true =>
                        go_quiet (fail)
                        go_wp2_with fail
                        go_meet
                        case rel => exact ⟨rfl, below_drewN (Below.refl _ _) _⟩
                case rest =>
                  obtain ⟨rfl, hbd⟩ := hcut
                  have mk4 := mk3.later hbd mk3.sz
                  clear ra rb da db z3 HT ad la lb mk3 hbd
                  obtain ⟨WD, hWD⟩ : ∃ WD, WD = wc := ⟨_, rfl⟩
                  subst hWD
                  cases htk : P1.takes b a y
                  · have HO := hide (offer_no htk)
                    clear htk
                    go_upto_if 113 with fail
                    go_wp2_with fail
                    go_roundg (m - (k + 1))
                    case measure => rw [HG2.out]; omega
                    case rel => exact ⟨k + 1, c2, rfl, by omega, by go_num, rfl, by rw [HP.out, HO.out]; exact mk4, fun h => by rw [HP.out, HO.out, (HC2.out h).2]; exact HCb.out (HC2.out h).1⟩
                  · have HO := hide (offer_yes htk)
                    clear htk
                    have rb := mk4.r.at_ a l1
                    have da := mk4.d.at_ b l2
                    have db := mk4.d.at_ a l1
                    have fb := mk4.d.fz a
                    have fr := mk4.r.fz a
                    have z3 : WD.cell? ⟨x3, o3 + k, none⟩ = some (.float .f64 y) := (mk4.b.cell (p := ⟨x3, o3 + k, none⟩) hx3).trans y3
                    have ad := fun (wx : World) => run_float_arith (P := Try.prog) wx .add 41 .f64 (P1.d b) y (addF (P1.d b) y) (add_le (mk4.le b) hxk)
                    have HM : Hid (MS w ((WD.setCell ⟨gd, a, none⟩ (.float .f64 (addF (P1.d b) y))).setCell ⟨w.heap.size, a, none⟩ (.bool true)) w.heap.size w.heap.size gd n (P1.offer b a y)) := hide (by rw [HO.out]; exact (mk4.setD a _ (addF_le _ _)).setR a)
                    generalize P1.reach a = pb at *
                    generalize addF (P1.d b) y = sa at *
                    generalize P1.d b = pda at *
                    generalize P1.d a = pdb at *
                    go_upto_if 113 with fail
                    go_upto_region 18 with fail
                    go_region
                    all_goals
                      go_wp2_with fail
                      go_roundg (m - (k + 1))
                      case measure => rw [HG2.out]; omega
                      case rel => exact ⟨k + 1, true, rfl, by omega, by go_num, rfl, by rw [HP.out]; exact HM.out.drew, fun h => by cases h⟩
          · obtain rfl : k = m := by omega
            go_wp2_with fail
            go_meet
            case rel => exact ⟨cb, rfl, mk, HCb.out⟩
      case rest =>
        obtain ⟨cb, rfl, ms', hcb⟩ := hcut
        cases cb with
        | false =>
          have e := hcb rfl
          rw [e] at ms'
          go_wp2_with fail
          go_ret2
          exact ⟨w.heap.size, gd, st, rfl, ms', r, HS.out, .inr e⟩
        | true =>
          go_wp2_with fail
          go_roundg (n - (r + 1))
          case measure => rw [HG.out]; omega
          case rel => exact ⟨r + 1, rfl, by omega, by go_num, by rw [HStep.out]; exact ms'⟩
    · obtain rfl : r = n := by omega
      go_wp2_with fail
      go_ret2
      exact ⟨w.heap.size, gd, _, rfl, ms, r, rfl, .inl rfl⟩
end Go.Proofs.Qxb6628650a
