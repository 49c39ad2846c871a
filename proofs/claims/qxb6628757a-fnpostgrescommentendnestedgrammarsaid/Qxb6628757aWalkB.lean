/-
  THE WALK of zzBodyEnd (seat b6628757a): a function that calls itself.
-/
import Derived.Test.Qxb6628757aWalkA
namespace Go.Proofs.Qxb6628757a
open Go.RowKit
open Pl

theorem cl_at {s : ByteArray} {k : Nat} (h : k + 1 < s.size) (hc : cl s k = true) : ((s[k].toNat : Int) == 42) = true ∧ ((s[k + 1].toNat : Int) == 47) = true := by
  rw [cl_iff, bt_lt h, bt_lt (show k < s.size by omega)] at hc
  rw [hc.1, hc.2]; exact ⟨rfl, rfl⟩
theorem op_at {s : ByteArray} {k : Nat} (h : k + 1 < s.size) (hc : op s k = true) : ((s[k].toNat : Int) == 47) = true ∧ ((s[k + 1].toNat : Int) == 42) = true ∧ ((s[k].toNat : Int) == 42) = false := by
  rw [op_iff, bt_lt h, bt_lt (show k < s.size by omega)] at hc
  rw [hc.1, hc.2]; exact ⟨rfl, rfl, rfl⟩
theorem cl_or {s : ByteArray} {k : Nat} (h : k + 1 < s.size) (hc : cl s k = false) : ((s[k].toNat : Int) == 42) = false ∨ ((s[k].toNat : Int) == 42) = true ∧ ((s[k + 1].toNat : Int) == 47) = false := by
  simp only [cl, bt_lt h, bt_lt (show k < s.size by omega), Bool.and_eq_false_iff, decide_eq_false_iff_not] at hc
  simp
  omega
theorem op_or {s : ByteArray} {k : Nat} (h : k + 1 < s.size) (hc : op s k = false) : ((s[k].toNat : Int) == 47) = false ∨ ((s[k].toNat : Int) == 47) = true ∧ ((s[k + 1].toNat : Int) == 42) = false := by
  simp only [op, bt_lt h, bt_lt (show k < s.size by omega), Bool.and_eq_false_iff, decide_eq_false_iff_not] at hc
  simp
  omega

set_option maxHeartbeats 1000000 in
theorem body_any (s : ByteArray) (hs : s.size ≤ 1000000) (n : Nat) : ∀ (i : Nat) (w : World), s.size ≤ i + n → i ≤ s.size →
    Calls Try.prog 7 #[.string s, .int .i64 i] w fun e w' => e = .returned (.tuple #[.int .i64 (sc s i 0).1, .bool (sc s i 0).2]) ∧ w' = w := by
  induction n with
  | zero =>
    intro i w hn hi
    have H := hide (sc_end (s := s) (i := i) (d := 0) (by omega))
    go_enter Try.func7, Try.ntmps7
    go_wp2_with fail
    refine wp_loop_rounds 1 ?_
    rw [rounds_succ]
    go_wp2_with fail
    go_ret2
    exact ⟨by rw [H.out]; rfl, rfl⟩
  | succ n ih0 =>
    intro i w hn hi
    have ih := hide ih0
    clear ih0
    go_enter Try.func7, Try.ntmps7
    go_wp2_with fail
    go_loopg [1] (s.size - i) (fun g a wx => w = wx ∧ ∃ k : Nat, i ≤ k ∧ k ≤ s.size ∧ g = s.size - k ∧ a = .int .i64 k ∧ sc s k 0 = sc s i 0)
    case atStart => exact ⟨rfl, i, by omega, hi, rfl, rfl, rfl⟩
    case round =>
      obtain ⟨rfl, k, hik, hk, hg, rfl, he⟩ := hrel
      have HG := hide hg
      have HE := hide he
      clear hg he
      by_cases hlt : k + 1 < s.size
      · cases hc : cl s k
        · cases ho : op s k
          · have H := hide (sc_step (d := 0) hlt hc ho)
            rcases cl_or hlt hc with h1 | ⟨h1, h2⟩
            · rcases op_or hlt ho with h3 | ⟨h3, h4⟩
              all_goals
                clear hc ho
                go_wp2_with fail
                go_roundg (s.size - (k + 1))
                case measure => rw [HG.out]; omega
                case rel => exact ⟨rfl, k + 1, by omega, by omega, rfl, by go_num, by rw [← H.out, HE.out]⟩
            · rcases op_or hlt ho with h3 | ⟨h3, h4⟩
              all_goals
                clear hc ho
                go_wp2_with fail
                go_roundg (s.size - (k + 1))
                case measure => rw [HG.out]; omega
                case rel => exact ⟨rfl, k + 1, by omega, by omega, rfl, by go_num, by rw [← H.out, HE.out]⟩
          · obtain ⟨h1, h2, h3⟩ := op_at hlt ho
            have H := hide ((sc_open (d := 0) hlt ho).trans (sc_nest s (k + 2) 0))
            have HB := hide (sc_bd s (k + 2) 0)
            clear hc ho
            go_wp2_with fail
            rw [show ((k : Int) + 2) = ((k + 2 : Nat) : Int) by omega]
            refine (ih.out (k + 2) _ (by omega) (by omega)).mono ?_
            rintro e w' ⟨rfl, hw⟩
            rw [hw]; clear hw w'
            have HC : Hid (∀ r, sc s (k + 2) 0 = r → sc s k 0 = cont s 0 r ∧ (r.2 = true → k + 4 ≤ r.1 ∧ r.1 ≤ s.size)) := hide (by rintro r rfl; exact ⟨H.out, fun x => ⟨by have := (HB.out.1 x).1; omega, (HB.out.1 x).2.1⟩⟩)
            clear H HB
            obtain ⟨r, hr⟩ : ∃ r, sc s (k + 2) 0 = r := ⟨_, rfl⟩
            have HR := HC.out r hr
            rw [hr]
            clear HC hr
            obtain ⟨e2, b2⟩ := r
            obtain ⟨hr1, hr2⟩ := HR
            have HR1 := hide hr1
            clear hr1
            cases b2
            · clear hr2
              go_wp2_with fail
              go_ret2
              exact ⟨by rw [← HE.out, HR1.out]; rfl, rfl⟩
            · obtain ⟨g1, g2⟩ := hr2 rfl
              clear hr2
              simp only at g1 g2
              go_wp2_with fail
              go_roundg (s.size - e2)
              case measure => rw [HG.out]; omega
              case rel => exact ⟨rfl, e2, by omega, by omega, rfl, rfl, by rw [← HE.out, HR1.out]; rfl⟩
        · obtain ⟨h1, h2⟩ := cl_at hlt hc
          have H := hide (sc_close0 hlt hc)
          clear hc
          go_wp2_with fail
          go_ret2
          exact ⟨by rw [← HE.out, H.out]; go_num, rfl⟩
      · have H := hide (sc_end (d := 0) (show s.size ≤ k + 1 by omega))
        go_wp2_with fail
        go_ret2
        exact ⟨by rw [← HE.out, H.out]; rfl, rfl⟩

end Go.Proofs.Qxb6628757a
