/-
  WALKS of seat b6628726a: clone, equal, prefix, header over byte slices.
-/
import Derived.Test.Qxb6628726aBytes
import Derived.BigQuiet
import Derived.Lib.SliceRun
namespace Go.Proofs.Qxb6628726a
open Go.RowKit
set_option linter.unusedVariables false

/-- The slice v has n elements; its cells, off its head, are f 0, f 1, .. -/
def Rd (w : World) (v : Value) (n sz : Nat) (f : Nat → Value) : Prop :=
  ∃ a cap, v = .slice a n cap ∧ (0 < n → ∃ b off, a = some ⟨b, off, none⟩ ∧ b < w.heap.size ∧ ∀ i, i < n * sz → w.cell? ⟨b, off + i, none⟩ = some (f i))

theorem Rd.later {w w' : World} {v : Value} {n sz : Nat} {f : Nat → Value} (h : Rd w v n sz f) (hb : Below w.heap.size w w') : Rd w' v n sz f := by
  obtain ⟨a, cap, e, k⟩ := h
  refine ⟨a, cap, e, fun hn => ?_⟩
  obtain ⟨b, off, e2, hlt, hc⟩ := k hn
  exact ⟨b, off, e2, Nat.lt_of_lt_of_le hlt hb.size, fun i hi => (hb.cell (p := ⟨b, off + i, none⟩) hlt).trans (hc i hi)⟩

abbrev bf (l : List Int) : Nat → Value := fun i => .int .u8 (l.getD i 0)

theorem Own.rd {w : World} {B : Nat} {v : Value} {l : List Int} (h : Own w B v l) : Rd w v l.length 1 (bf l) := by
  rcases h.2 with ⟨rfl, h0⟩ | ⟨g, cap, cur, rfl, hb, hg, hn, hm, hs, ht⟩
  · exact ⟨none, 0, by rw [h0], fun hn => by omega⟩
  · refine ⟨some ⟨g, 0, none⟩, cap, rfl, fun hn => ⟨g, 0, rfl, (h.lt g rfl).2, fun i hi => ?_⟩⟩
    rw [Nat.zero_add, h.cellAt i hi]
    have : i < l.length := by omega
    simp [this]

theorem own_of {w : World} {B : Nat} {v : Value} {l : List Int} {n : Nat} {xs : List Value} (h : w.ownsRow B 5 1 v n xs) (hn : n = l.length) (hx : ∀ i, i < n → xs[i]? = some (bf l i)) : Own w B v l := by
  have e : xs = U8 l := by
    apply List.ext_getElem?
    intro i
    by_cases c : i < n
    · rw [hx i c]
      have : i < l.length := by omega
      simp [this]
    · have h1 := h.1
      rw [List.getElem?_eq_none (by omega), List.getElem?_eq_none (by simp; omega)]
  subst hn
  rw [e] at h
  exact h

set_option maxRecDepth 100000 in
set_option maxHeartbeats 1000000 in
theorem clone_any (v : Value) (l : List Int) (w : World) (hrd : Rd w v l.length 1 (bf l)) (hl : l.length ≤ 1000000000) :
    Calls Try.prog 7 #[v] w fun e w' => ∃ v', e = .returned v' ∧ Own w' w.heap.size v' l ∧ Below w.heap.size w w' := by
  obtain ⟨i0, hi0, hz0, hz1, hz2⟩ := info_parts info5
  have hnil := fun (wx : World) (a : Option Addr) (n c : Nat) => Lib.run_eql_slice_nil (P := Try.prog) wx 24 5 a n c 0 0 Try.underlying24
  obtain ⟨a, cap, rfl, hc⟩ := hrd
  cases a with
  | none =>
    have h0 : l.length = 0 := by
      by_cases c : 0 < l.length
      · obtain ⟨b, off, e, _⟩ := hc c; cases e
      · omega
    have hl0 : l = [] := List.eq_nil_of_length_eq_zero h0
    subst hl0
    go_enter Try.func7, Try.ntmps7
    go_wp2_with fail
    go_ret
    exact ⟨_, rfl, World.ownsRow_nil _ _ _ _, Below.refl _ _⟩
  | some a =>
    go_enter Try.func7, Try.ntmps7
    go_wp2_with (at_make; refine wpList_make_full _ (by rfl) _ _ 24 (by rfl) w.heap.size 5 i0 (.int .u8 0) 1 Try.underlying24 hi0 hz0 hz1 .i64 .i64 _ _ l.length (by rfl) (by rfl) (by rfl) (by rfl) ?c1 ?c2 ?c3 ?_)
    case c1 => rw [hz2]; omega
    case c2 => unfold maxLen; omega
    case c3 => exact Nat.le_refl _
    intro w1 hown hgr
    go_wp2_with fail
    go_loopg [4] l.length (fun g i wr => ∃ (k : Nat) (xs : List Value), g = l.length - k ∧ k ≤ l.length ∧ i = .int .i64 k ∧ wr.ownsRow w.heap.size 5 1 (.slice (some ⟨w.heap.size, 0, none⟩) l.length l.length) l.length xs ∧ (∀ j, j < k → xs[j]? = some (bf l j)) ∧ Below w.heap.size w wr)
    case atStart => exact ⟨0, _, by omega, by omega, rfl, hown, fun j hj => by omega, (Below.refl _ _).grown hgr (Nat.le_refl _) (fun k hk => by cases hk)⟩
    case round =>
      obtain ⟨k, xs, hgk, hk, rfl, hown', hxs, hbel⟩ := hrel
      have HG := hide hgk
      have HX := hide hxs
      have HO := hide hown
      clear hgk hxs hown
      by_cases hlt : k < l.length
      · obtain ⟨b, off, e, hb, hcells⟩ := hc (by omega)
        have he : a = ⟨b, off, none⟩ := by simpa using e
        subst he
        have hcell : wr.cell? ⟨b, off + k, none⟩ = some (.int .u8 (l.getD k 0)) := (hbel.cell (p := ⟨b, off + k, none⟩) hb).trans (hcells k (by omega))
        obtain ⟨x, hx⟩ : ∃ x, l.getD k 0 = x := ⟨_, rfl⟩
        rw [hx] at hcell
        have HXk := hide hx
        clear hx
        have hfz := hown'.frozenAt k
        have hold : ∃ u, wr.cell? ⟨w.heap.size, k, none⟩ = some u := by
          rw [hown'.cellAt k (by omega)]
          have := hown'.1
          exact ⟨_, List.getElem?_eq_getElem (by omega)⟩
        obtain ⟨u, hu⟩ := hold
        clear hcells e hc
        go_wp2_with fail
        go_roundg (l.length - (k + 1))
        case measure => rw [HG.out]; omega
        case rel =>
          refine ⟨k + 1, _, rfl, by omega, by go_num, (hown'.stored k (.int .u8 x)).1, fun j hj => ?_, hbel.setCell (Nat.le_refl _) _⟩
          have h1 := hown'.1
          by_cases e : j = k
          · subst e; rw [List.getElem?_set_self (by omega)]; unfold bf; rw [HXk.out]
          · rw [List.getElem?_set_ne (by omega)]; exact HX.out j (by omega)
      · go_wp2_with fail
        go_ret
        exact ⟨_, rfl, own_of hown' rfl fun j hj => HX.out j (by omega), hbel⟩

set_option maxRecDepth 100000 in
set_option maxHeartbeats 1000000 in
theorem equal_bytes (u v : Value) (l : List Int) (w : World) (hu : Rd w u l.length 1 (bf l)) (hv : Rd w v l.length 1 (bf l)) (hl : l.length ≤ 1000000000) :
    Calls Try.prog 12 #[u, v] w fun e w' => e = .returned (.bool true) ∧ Below w.heap.size w w' := by
  obtain ⟨a, cap, rfl, hc⟩ := hu
  obtain ⟨a2, cap2, rfl, hc2⟩ := hv
  have hne : ((l.length : Int) != (l.length : Int)) = false := by simp
  go_enter Try.func12, Try.ntmps12
  go_wp2_with fail
  go_loopg [5] l.length (fun g i wr => ∃ (k : Nat), g = l.length - k ∧ k ≤ l.length ∧ i = .int .i64 k ∧ Below w.heap.size w wr)
  case atStart => exact ⟨0, by omega, by omega, rfl, Below.refl _ _⟩
  case round =>
    obtain ⟨k, hgk, hk, rfl, hbel⟩ := hrel
    have HG := hide hgk
    clear hgk
    by_cases hlt : k < l.length
    · obtain ⟨b, off, rfl, hb, hcells⟩ := hc (by omega)
      obtain ⟨b2, off2, rfl, hb2, hcells2⟩ := hc2 (by omega)
      have hcell : wr.cell? ⟨b, off + k, none⟩ = some (.int .u8 (l.getD k 0)) := (hbel.cell (p := ⟨b, off + k, none⟩) hb).trans (hcells k (by omega))
      have hcell2 : wr.cell? ⟨b2, off2 + k, none⟩ = some (.int .u8 (l.getD k 0)) := (hbel.cell (p := ⟨b2, off2 + k, none⟩) hb2).trans (hcells2 k (by omega))
      generalize l.getD k 0 = x at hcell hcell2
      have hx : (x != x) = false := by simp
      have i1 : (0 : Int) ≤ (k : Int) := by omega
      have i2 : (k : Int) < (l.length : Int) := by omega
      clear hcells hcells2 hc hc2
      go_wp2_with fail
      go_quiet (fail)
      go_wp2_with fail
      go_roundg (l.length - (k + 1))
      case measure => rw [HG.out]; omega
      case rel => exact ⟨k + 1, rfl, by omega, by go_num, below_drewN hbel _⟩
    · go_wp2_with fail
      go_ret
      exact ⟨rfl, hbel⟩
set_option maxRecDepth 100000 in
set_option maxHeartbeats 1000000 in
theorem prefix_bytes (u v : Value) (m l : List Int) (w : World) (hu : Rd w u m.length 1 (bf m)) (hv : Rd w v l.length 1 (bf l)) (hl : m.length ≤ 1000000000) (hle : l.length ≤ m.length) (hpre : ∀ i, i < l.length → m.getD i 0 = l.getD i 0) :
    Calls Try.prog 16 #[u, v] w fun e w' => e = .returned (.bool true) ∧ Below w.heap.size w w' := by
  obtain ⟨a, cap, rfl, hc⟩ := hu
  obtain ⟨a2, cap2, rfl, hc2⟩ := hv
  have HP := hide hpre
  clear hpre
  go_enter Try.func16, Try.ntmps16
  go_wp2_with fail
  go_loopg [5] l.length (fun g i wr => ∃ (k : Nat), g = l.length - k ∧ k ≤ l.length ∧ i = .int .i64 k ∧ Below w.heap.size w wr)
  case atStart => exact ⟨0, by omega, by omega, rfl, Below.refl _ _⟩
  case round =>
    obtain ⟨k, hgk, hk, rfl, hbel⟩ := hrel
    have HG := hide hgk
    clear hgk
    by_cases hlt : k < l.length
    · obtain ⟨b, off, rfl, hb, hcells⟩ := hc (by omega)
      obtain ⟨b2, off2, rfl, hb2, hcells2⟩ := hc2 (by omega)
      have hcell : wr.cell? ⟨b, off + k, none⟩ = some (.int .u8 (l.getD k 0)) := by rw [← HP.out k hlt]; exact (hbel.cell (p := ⟨b, off + k, none⟩) hb).trans (hcells k (by omega))
      have hcell2 : wr.cell? ⟨b2, off2 + k, none⟩ = some (.int .u8 (l.getD k 0)) := (hbel.cell (p := ⟨b2, off2 + k, none⟩) hb2).trans (hcells2 k (by omega))
      generalize l.getD k 0 = x at hcell hcell2
      have hx : (x != x) = false := by simp
      have i1 : (0 : Int) ≤ (k : Int) := by omega
      have i2 : (k : Int) < (l.length : Int) := by omega
      have i3 : (k : Int) < (m.length : Int) := by omega
      clear hcells hcells2 hc hc2
      go_wp2_with fail
      go_quiet (fail)
      go_wp2_with fail
      go_roundg (l.length - (k + 1))
      case measure => rw [HG.out]; omega
      case rel => exact ⟨k + 1, rfl, by omega, by go_num, below_drewN hbel _⟩
    · go_wp2_with fail
      go_ret
      exact ⟨rfl, hbel⟩

/-- The header: version, seconds, nanoseconds. -/
def hdr (N : Nat) : List Int := [1] ++ uv 9 (zz ((sc N : Int) + -62135596800)) ++ uv 9 (ns N)
theorem hdr_len (N : Nat) : (hdr N).length ≤ 21 := by
  have a := uv_len 9 (zz ((sc N : Int) + -62135596800))
  have b := uv_len 9 (ns N)
  simp [hdr]; omega

theorem snoc_step {wr w1 : World} {B : Nat} {r : List Int} {b : Int} {g cap : Nat} (h : w1.ownsRow B 5 1 (.slice (some ⟨g, 0, none⟩) (r.length + 1) cap) (r.length + 1) (U8 r ++ [.int .u8 b])) : Own w1 B (.slice (some ⟨g, 0, none⟩) (r.length + 1) cap) (r ++ [b]) := Own.snoc h
theorem take_snoc (l : List Int) (k : Nat) (h : k < l.length) : l.take (k + 1) = l.take k ++ [l.getD k 0] := by
  rw [List.take_succ_eq_append_getElem h]; simp [h]

set_option maxRecDepth 100000 in
set_option maxHeartbeats 1000000 in
theorem header_any (v : Value) (l : List Int) (N : Nat) (hN : N ≤ 4611686018427387904) (w : World) (hrd : Rd w v l.length 1 (bf l)) (hl : l.length ≤ 100000000) :
    Calls Try.prog 15 #[v, .int .i64 N] w fun e w' => ∃ v', e = .returned v' ∧ Own w' w.heap.size v' (l ++ hdr N) ∧ Below w.heap.size w w' := by
  obtain ⟨i0, hi0, hz0, hz1, hz2⟩ := info_parts info5
  obtain ⟨a, cap, rfl, hc⟩ := hrd
  go_enter Try.func15, Try.ntmps15
  go_wp2_with (at_make; refine wpList_make_own _ (by rfl) _ _ 24 (by rfl) w.heap.size 5 i0 (.int .u8 0) 1 Try.underlying24 hi0 hz0 hz1 .i64 .i64 _ (l.length + 32) (by rfl) (by rfl) ?c0 ?c1 ?c2 ?c3 ?_)
  case c0 => omega
  case c1 => rw [hz2]; omega
  case c2 => unfold maxLen; omega
  case c3 => exact Nat.le_refl _
  intro w1 hown hgr
  go_wp2_with fail
  go_loopg [5, 6] l.length (fun g o i wr => ∃ (k : Nat), g = l.length - k ∧ k ≤ l.length ∧ i = .int .i64 k ∧ Own wr w.heap.size o (l.take k) ∧ Below w.heap.size w wr)
  case atStart => exact ⟨0, by omega, by omega, rfl, hown, (Below.refl _ _).grown hgr (Nat.le_refl _) (fun k hk => by cases hk)⟩
  case round =>
    obtain ⟨k, hgk, hk, rfl, hown', hbel⟩ := hrel
    have HG := hide hgk
    clear hgk hown hgr
    have hsz := hbel.size
    have htk := hide (show (l.take k).length = k by simp; omega)
    have htl : (l.take k).length ≤ 100000000 := by rw [htk.out]; omega
    by_cases hlt : k < l.length
    · obtain ⟨b, off, rfl, hb, hcells⟩ := hc (by omega)
      have hcell : wr.cell? ⟨b, off + k, none⟩ = some (.int .u8 (l.getD k 0)) := (hbel.cell (p := ⟨b, off + k, none⟩) hb).trans (hcells k (by omega))
      obtain ⟨x, hx⟩ : ∃ x, l.getD k 0 = x := ⟨_, rfl⟩
      rw [hx] at hcell
      have HXk := hide (take_snoc l k hlt)
      rw [hx] at HXk
      clear hx hcells hc htk
      generalize l.take k = r at *
      go_wp2_with (at_builtin; refine wpList_append_lies _ (by rfl) _ _ 24 (by rfl) w.heap.size 5 i0 (.int .u8 0) 1 1 Try.underlying24 hi0 hz0 hz1 hz2 rfl (by omega) u5 r.length (U8 r) (by rfl) (hown'.alloc _) ⟨wr.heap.size, 0, none⟩ 1 1 [.int .u8 x] (by rfl) (by rfl) ?c1 ?c2 (by omega) ?c3 ?c4 ?c5 (wr.heap.size + 1) ?c6 ?_)
      case c1 => exact cell_one_new _ _ _
      case c2 => intro u hu; simp at hu; subst hu; rfl
      case c3 => unfold maxLen; omega
      case c4 => omega
      case c5 => simp; omega
      case c6 => simp
      intro g cap2 w2 hown2 hgrow hat hlt2
      go_wp2_with fail
      go_roundg (l.length - (k + 1))
      case measure => rw [HG.out]; omega
      case rel => exact ⟨k + 1, rfl, by omega, by go_num, by rw [HXk.out]; exact Own.snoc hown2, hbel.trans ((Led.step (n := 0) (cap := 0) hgrow hat).below hsz fun k hk => (hown'.lt k hk).1)⟩
    · have hkl : k = l.length := by omega
      subst hkl
      rw [List.take_length] at hown' htl
      clear htk hlt hk
      have hq : (N : Int) / 1000000000 = (sc N : Int) := by unfold sc; omega
      have hr : (N : Int) % 1000000000 = (ns N : Int) := by unfold ns; omega
      have hsc := sc_le hN
      have hns := ns_lt N
      go_wp2_with (at_builtin; refine wpList_append_lies _ (by rfl) _ _ 24 (by rfl) w.heap.size 5 i0 (.int .u8 0) 1 1 Try.underlying24 hi0 hz0 hz1 hz2 rfl (by omega) u5 l.length (U8 l) (by rfl) (hown'.alloc _) ⟨wr.heap.size, 0, none⟩ 1 1 [.int .u8 1] (by rfl) (by rfl) ?c1 ?c2 (by omega) ?c3 ?c4 ?c5 (wr.heap.size + 1) ?c6 ?_)
      case c1 => exact cell_one_new _ _ _
      case c2 => intro u hu; simp at hu; subst hu; rfl
      case c3 => unfold maxLen; omega
      case c4 => omega
      case c5 => simp; omega
      case c6 => simp
      intro g cap2 w2 hown2 hgrow hat hlt2
      have hl1 := Led.step (n := l.length + 1) (cap := cap2) hgrow hat
      have ho1 := Own.snoc hown2
      have hb1 : Hid (Below w.heap.size w w2) := hide (hbel.trans (hl1.below hsz fun k hk => (hown'.lt k hk).1))
      have hs1 : w.heap.size ≤ w2.heap.size := Nat.le_trans hsz hl1.grown.size
      clear hown2 hgrow hat hlt2 hl1 hown'
      go_wp2_with fail
      rw [show (-62135596800 + (sc N : Int)) = (sc N : Int) + -62135596800 by omega]
      refine (var29_any w.heap.size _ (l ++ [1]) _ (by omega) (by omega) _ ho1 hs1 (by simp; omega)).mono ?_
      rintro e w3 ⟨v3, rfl, ho3, hl3⟩
      have hb3 : Hid (Below w.heap.size w w3) := hide (hb1.out.trans (hl3.below hs1 fun k hk => (ho1.lt k hk).1))
      have hs3 : w.heap.size ≤ w3.heap.size := Nat.le_trans hs1 hl3.grown.size
      have hu := uv_len 9 (zz ((sc N : Int) + -62135596800))
      go_wp2_with fail
      refine (uv30_any w.heap.size _ _ (ns N : Int) (by omega) (by omega) _ ho3 hs3 (by simp; omega)).mono ?_
      rintro e w4 ⟨v4, rfl, ho4, hl4⟩
      have hb4 : Hid (Below w.heap.size w w4) := hide (hb3.out.trans (hl4.below hs3 fun k hk => (ho3.lt k hk).1))
      go_wp2_with fail
      go_ret
      exact ⟨v4, rfl, by simpa [hdr] using ho4, hb4.out⟩

end Go.Proofs.Qxb6628726a
