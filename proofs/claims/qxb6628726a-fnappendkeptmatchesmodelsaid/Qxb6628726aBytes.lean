/-
  WALKS of seat b6628726a: byte slices that the call owns: the varints, the header, clone, equal.
-/
import Derived.Test.Qxb6628726aTime
namespace Go.Proofs.Qxb6628726a
open Go.RowKit
set_option linter.unusedVariables false

theorem info5 : (Try.prog.info? 5).map (fun i => (i.zero, i.size, i.bytes)) = some (some (.int .u8 0), 1, 1) := by kernel_rfl

abbrev U8 (l : List Int) : List Value := l.map (Value.int .u8)
theorem U8_len (l : List Int) : (U8 l).length = l.length * 1 := by simp
/-- The slice v, of the bytes l, lies in memory of the call's own. -/
abbrev Own (w : World) (B : Nat) (v : Value) (l : List Int) : Prop := w.ownsRow B 5 1 v l.length (U8 l)

def uv : Nat → Int → List Int
  | 0, x => [x % 256]
  | f + 1, x => if 128 ≤ x then bits .or .u8 (x % 256) 128 :: uv f (x / 128) else [x % 256]
theorem uv_len : ∀ f x, 1 ≤ (uv f x).length ∧ (uv f x).length ≤ f + 1
  | 0, x => by simp [uv]
  | f + 1, x => by
    unfold uv; split
    · have := uv_len f (x / 128); simp; omega
    · simp

/-- What an append leaves of the world: the row appended to, and new blocks, alone are touched; where the new slice lies. -/
structure Led (w w' : World) (v v' : Value) : Prop where
  grown : w.grownBy w' v.ownBlock
  lies : v'.ownBlock = v.ownBlock ∨ ∃ g, v'.ownBlock = some g ∧ w.heap.size ≤ g

theorem Led.refl (w : World) (v : Value) : Led w w v v := ⟨⟨rfl, rfl, rfl, Nat.le_refl _, fun _ _ _ => rfl⟩, .inl rfl⟩
theorem Led.trans {w w1 w2 : World} {v v1 v2 : Value} (a : Led w w1 v v1) (b : Led w1 w2 v1 v2) : Led w w2 v v2 := by
  refine ⟨⟨b.grown.os.trans a.grown.os, b.grown.tape.trans a.grown.tape, b.grown.output.trans a.grown.output, Nat.le_trans a.grown.size b.grown.size, fun k hk hne => ?_⟩, ?_⟩
  · rw [b.grown.block k (Nat.lt_of_lt_of_le hk a.grown.size) ?_, a.grown.block k hk hne]
    rcases a.lies with e | ⟨g, e, hg⟩
    · rw [e]; exact hne
    · rw [e]; intro h; simp at h; omega
  · rcases b.lies with e | ⟨g, e, hg⟩
    · rw [e]; exact a.lies
    · exact .inr ⟨g, e, Nat.le_trans a.grown.size hg⟩
theorem Led.alloc {w w1 : World} {v v1 : Value} (a : Led w w1 v v1) (o : Obj) : Led w (w1.alloc o) v v1 :=
  a.trans ⟨World.grownBy_alloc w1 o _, .inl rfl⟩
theorem Led.step {w w1 : World} {o : Obj} {v : Value} {g n cap : Nat} (hg : (w.alloc o).grownBy w1 v.ownBlock) (hat : v.ownBlock = some g ∨ g = w.heap.size + 1) : Led w w1 v (.slice (some ⟨g, 0, none⟩) n cap) := by
  have a : Led w (w.alloc o) v v := (Led.refl w v).alloc o
  refine a.trans ⟨hg, ?_⟩
  rcases hat with e | e
  · exact .inl e.symm
  · exact .inr ⟨g, rfl, by simp; omega⟩
theorem Own.snoc {w : World} {B : Nat} {v : Value} {r : List Int} {b : Int} (h : w.ownsRow B 5 1 v (r.length + 1) (U8 r ++ [.int .u8 b])) : Own w B v (r ++ [b]) := by
  have e : (r ++ [b]).length = r.length + 1 := by simp
  have e2 : U8 (r ++ [b]) = U8 r ++ [.int .u8 b] := by simp
  unfold Own; rw [e, e2]; exact h
theorem uv_more {f : Nat} {y : Int} (h : 128 ≤ y) : uv (f + 1) y = bits .or .u8 (y % 256) 128 :: uv f (y / 128) := by rw [uv, if_pos h]
theorem uv_last {f : Nat} {y : Int} (h0 : 0 ≤ y) (h : y < 128) : uv f y = [y] := by
  cases f with
  | zero => rw [uv]; congr 1; omega
  | succ f => rw [uv, if_neg (by omega)]; congr 1; omega
theorem pow_step {f : Nat} {y : Int} (h : y < 128 ^ (f + 1 + 1)) : y / 128 < 128 ^ (f + 1) := by
  rw [Int.pow_succ] at h
  omega

theorem Led.below {w w1 : World} {v v1 : Value} (a : Led w w1 v v1) {B : Nat} (hB : B ≤ w.heap.size) (h : ∀ k, v.ownBlock = some k → B ≤ k) : Below B w w1 :=
  (Below.refl _ _).grown a.grown hB h

set_option maxRecDepth 100000 in
set_option maxHeartbeats 1000000 in
theorem uv24_any (B : Nat) (v : Value) (l : List Int) (x : Int) (hx0 : 0 ≤ x) (hx : x < 18446744073709551616) (w : World) (hown : Own w B v l) (hB : B ≤ w.heap.size) (hl : l.length ≤ 1000000000) :
    Calls Try.prog 24 #[v, .int .u64 x] w fun e w' => ∃ v', e = .returned v' ∧ Own w' B v' (l ++ uv 9 x) ∧ Led w w' v v' := by
  obtain ⟨i0, hi0, hz0, hz1, hz2⟩ := info_parts info5
  go_enter Try.func24, Try.ntmps24
  go_wp2_with fail
  go_loopg [0, 1] 10 (fun g a b wr => ∃ (r : List Int) (y : Int) (f : Nat), g = f + 1 ∧ b = .int .u64 y ∧ 0 ≤ y ∧ y < 128 ^ (f + 1) ∧ y < 18446744073709551616 ∧ r.length + f ≤ l.length + 9 ∧ Own wr B a r ∧ Led w wr v a ∧ r ++ uv f y = l ++ uv 9 x)
  case atStart => exact ⟨l, x, 9, rfl, rfl, hx0, by omega, hx, by omega, hown, Led.refl _ _, rfl⟩
  case round =>
    obtain ⟨r, y, f, hgk, rfl, hy0, hy1, hy2, hr, hown', hled, he⟩ := hrel
    have HE := hide he
    have HY := hide hy1
    have HG := hide hgk
    clear he hy1 hgk
    have hbw : B ≤ wr.heap.size := Nat.le_trans hB hled.grown.size
    by_cases hc : 128 ≤ y
    · obtain ⟨f', rfl⟩ : ∃ f', f = f' + 1 := by
        cases f with
        | zero => have := HY.out; simp at this; omega
        | succ f => exact ⟨f, rfl⟩
      go_wp2_with (at_builtin; refine wpList_append_lies _ (by rfl) _ _ 24 (by rfl) B 5 i0 (.int .u8 0) 1 1 Try.underlying24 hi0 hz0 hz1 hz2 rfl (by omega) u0 r.length (U8 r) (by rfl) (hown'.alloc _) ⟨wr.heap.size, 0, none⟩ 1 1 [.int .u8 (bits .or .u8 (y % 256) 128)] (by rfl) (by rfl) ?c1 ?c2 (by omega) ?c3 ?c4 ?c5 (wr.heap.size + 1) ?c6 ?_)
      case c1 => exact cell_one_new _ _ _
      case c2 => intro u hu; simp at hu; subst hu; rfl
      case c3 => unfold maxLen; omega
      case c4 => omega
      case c5 => simp; omega
      case c6 => simp
      · intro g cap w1 hown1 hgrow hat hlt
        go_wp2_with fail
        go_roundg (f' + 1)
        case measure => rw [HG.out]; omega
        case rel => exact ⟨r ++ [bits .or .u8 (y % 256) 128], y / 128, f', rfl, rfl, by omega, pow_step HY.out, by omega, by simp; omega, Own.snoc hown1, hled.trans (Led.step hgrow hat), by rw [← HE.out, uv_more hc]; simp⟩
    · go_wp2_with (at_builtin; refine wpList_append_lies _ (by rfl) _ _ 24 (by rfl) B 5 i0 (.int .u8 0) 1 1 Try.underlying24 hi0 hz0 hz1 hz2 rfl (by omega) u0 r.length (U8 r) (by rfl) (hown'.alloc _) ⟨wr.heap.size, 0, none⟩ 1 1 [.int .u8 y] (by rfl) (by rfl) ?c1 ?c2 (by omega) ?c3 ?c4 ?c5 (wr.heap.size + 1) ?c6 ?_)
      case c2 => rfl
      case c3 => unfold maxLen; omega
      case c4 => omega
      case c5 => omega
      · intro g cap w1 hown1 hgrow hat hlt
        go_wp2_with fail
        go_ret
        refine ⟨_, rfl, ?_, hled.trans (Led.step hgrow hat)⟩
        rw [← HE.out, uv_last hy0 (by omega)]
        exact Own.snoc hown1
set_option maxRecDepth 100000 in
set_option maxHeartbeats 1000000 in
theorem uv30_any (B : Nat) (v : Value) (l : List Int) (x : Int) (hx0 : 0 ≤ x) (hx : x < 18446744073709551616) (w : World) (hown : Own w B v l) (hB : B ≤ w.heap.size) (hl : l.length ≤ 1000000000) :
    Calls Try.prog 30 #[v, .int .u64 x] w fun e w' => ∃ v', e = .returned v' ∧ Own w' B v' (l ++ uv 9 x) ∧ Led w w' v v' := by
  obtain ⟨i0, hi0, hz0, hz1, hz2⟩ := info_parts info5
  go_enter Try.func30, Try.ntmps30
  go_wp2_with fail
  go_loopg [0, 1] 10 (fun g a b wr => ∃ (r : List Int) (y : Int) (f : Nat), g = f + 1 ∧ b = .int .u64 y ∧ 0 ≤ y ∧ y < 128 ^ (f + 1) ∧ y < 18446744073709551616 ∧ r.length + f ≤ l.length + 9 ∧ Own wr B a r ∧ Led w wr v a ∧ r ++ uv f y = l ++ uv 9 x)
  case atStart => exact ⟨l, x, 9, rfl, rfl, hx0, by omega, hx, by omega, hown, Led.refl _ _, rfl⟩
  case round =>
    obtain ⟨r, y, f, hgk, rfl, hy0, hy1, hy2, hr, hown', hled, he⟩ := hrel
    have HE := hide he
    have HY := hide hy1
    have HG := hide hgk
    clear he hy1 hgk
    have hbw : B ≤ wr.heap.size := Nat.le_trans hB hled.grown.size
    by_cases hc : 128 ≤ y
    · obtain ⟨f', rfl⟩ : ∃ f', f = f' + 1 := by
        cases f with
        | zero => have := HY.out; simp at this; omega
        | succ f => exact ⟨f, rfl⟩
      go_wp2_with (at_builtin; refine wpList_append_lies _ (by rfl) _ _ 24 (by rfl) B 5 i0 (.int .u8 0) 1 1 Try.underlying24 hi0 hz0 hz1 hz2 rfl (by omega) u0 r.length (U8 r) (by rfl) (hown'.alloc _) ⟨wr.heap.size, 0, none⟩ 1 1 [.int .u8 (bits .or .u8 (y % 256) 128)] (by rfl) (by rfl) ?c1 ?c2 (by omega) ?c3 ?c4 ?c5 (wr.heap.size + 1) ?c6 ?_)
      case c1 => exact cell_one_new _ _ _
      case c2 => intro u hu; simp at hu; subst hu; rfl
      case c3 => unfold maxLen; omega
      case c4 => omega
      case c5 => simp; omega
      case c6 => simp
      · intro g cap w1 hown1 hgrow hat hlt
        go_wp2_with fail
        go_roundg (f' + 1)
        case measure => rw [HG.out]; omega
        case rel => exact ⟨r ++ [bits .or .u8 (y % 256) 128], y / 128, f', rfl, rfl, by omega, pow_step HY.out, by omega, by simp; omega, Own.snoc hown1, hled.trans (Led.step hgrow hat), by rw [← HE.out, uv_more hc]; simp⟩
    · go_wp2_with (at_builtin; refine wpList_append_lies _ (by rfl) _ _ 24 (by rfl) B 5 i0 (.int .u8 0) 1 1 Try.underlying24 hi0 hz0 hz1 hz2 rfl (by omega) u0 r.length (U8 r) (by rfl) (hown'.alloc _) ⟨wr.heap.size, 0, none⟩ 1 1 [.int .u8 y] (by rfl) (by rfl) ?c1 ?c2 (by omega) ?c3 ?c4 ?c5 (wr.heap.size + 1) ?c6 ?_)
      case c2 => rfl
      case c3 => unfold maxLen; omega
      case c4 => omega
      case c5 => omega
      · intro g cap w1 hown1 hgrow hat hlt
        go_wp2_with fail
        go_ret
        refine ⟨_, rfl, ?_, hled.trans (Led.step hgrow hat)⟩
        rw [← HE.out, uv_last hy0 (by omega)]
        exact Own.snoc hown1

def zz (x : Int) : Int := if x < 0 then bits .xor .u64 IntKind.u64.max (IntKind.u64.wrap (IntKind.u64.wrap x * 2)) else x * 2
theorem zz_neg {x : Int} (h : x < 0) : zz x = bits .xor .u64 IntKind.u64.max (IntKind.u64.wrap (IntKind.u64.wrap x * 2)) := by rw [zz, if_pos h]
theorem zz_pos {x : Int} (h : ¬ x < 0) : zz x = x * 2 := by rw [zz, if_neg h]
theorem zz_bd {x : Int} (h : x ≤ 9223372036854775807) : 0 ≤ zz x ∧ zz x < 18446744073709551616 := by
  unfold zz; split
  · unfold bits; rw [IntKind.wrap_u64]; omega
  · omega

set_option maxRecDepth 100000 in
set_option maxHeartbeats 1000000 in
theorem var22_any (B : Nat) (v : Value) (l : List Int) (x : Int) (hx0 : -9223372036854775808 ≤ x) (hx : x ≤ 9223372036854775807) (w : World) (hown : Own w B v l) (hB : B ≤ w.heap.size) (hl : l.length ≤ 1000000000) :
    Calls Try.prog 22 #[v, .int .i64 x] w fun e w' => ∃ v', e = .returned v' ∧ Own w' B v' (l ++ uv 9 (zz x)) ∧ Led w w' v v' := by
  have HU := hide (fun w' => uv24_any B v l (zz x) (zz_bd hx).1 (zz_bd hx).2 w')
  by_cases hn : x < 0
  · have HZ := hide (zz_neg hn)
    go_enter Try.func22, Try.ntmps22
    go_wp2_with fail
    rw [← HZ.out]
    refine (HU.out _ hown hB hl).mono ?_
    rintro e w' ⟨v', rfl, h1, h2⟩
    go_wp2_with fail
    go_ret
    exact ⟨v', rfl, h1, h2⟩
  · have HZ := hide (zz_pos hn)
    go_enter Try.func22, Try.ntmps22
    go_wp2_with fail
    rw [← HZ.out]
    refine (HU.out _ hown hB hl).mono ?_
    rintro e w' ⟨v', rfl, h1, h2⟩
    go_wp2_with fail
    go_ret
    exact ⟨v', rfl, h1, h2⟩

set_option maxRecDepth 100000 in
set_option maxHeartbeats 1000000 in
theorem var29_any (B : Nat) (v : Value) (l : List Int) (x : Int) (hx0 : -9223372036854775808 ≤ x) (hx : x ≤ 9223372036854775807) (w : World) (hown : Own w B v l) (hB : B ≤ w.heap.size) (hl : l.length ≤ 1000000000) :
    Calls Try.prog 29 #[v, .int .i64 x] w fun e w' => ∃ v', e = .returned v' ∧ Own w' B v' (l ++ uv 9 (zz x)) ∧ Led w w' v v' := by
  have HU := hide (fun w' => uv30_any B v l (zz x) (zz_bd hx).1 (zz_bd hx).2 w')
  by_cases hn : x < 0
  · have HZ := hide (zz_neg hn)
    go_enter Try.func29, Try.ntmps29
    go_wp2_with fail
    rw [← HZ.out]
    refine (HU.out _ hown hB hl).mono ?_
    rintro e w' ⟨v', rfl, h1, h2⟩
    go_wp2_with fail
    go_ret
    exact ⟨v', rfl, h1, h2⟩
  · have HZ := hide (zz_pos hn)
    go_enter Try.func29, Try.ntmps29
    go_wp2_with fail
    rw [← HZ.out]
    refine (HU.out _ hown hB hl).mono ?_
    rintro e w' ⟨v', rfl, h1, h2⟩
    go_wp2_with fail
    go_ret
    exact ⟨v', rfl, h1, h2⟩

end Go.Proofs.Qxb6628726a
