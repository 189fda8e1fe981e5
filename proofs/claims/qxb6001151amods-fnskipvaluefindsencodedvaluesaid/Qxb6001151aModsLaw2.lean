/-
  THE WALK: FnSkipValueIgnoresPrefix.
-/
import Derived.Test.Qxb6001151aModsCat
namespace Go.Proofs.Qxb6001151aMods
open Go.RowKit Plain

theorem zzSkipValue_at {B : Nat} {ao : Option Addr} {len cap : Nat} {zs : List Int} {w : World} (h : Buf B w ao len cap zs) (hm : len ≤ 1099511627776) (i : Int) (j : Nat) (hi : i = (j : Int)) (r : Int) (hr : Hid (V zs j = r)) :
    Calls Trym.prog 14 #[.slice ao len cap, .int .i64 i] w fun e w' => e = .returned (.int .i64 r) ∧ w = w' := by
  subst hi
  exact zzSkipValue_buf h hm j r hr

set_option maxHeartbeats 400000 in
theorem law2_early {a0 a1 : Option Addr} {len0 cap0 len1 cap1 : Nat} {i : Int} {w : World} (hi1 : -9223372036854775808 ≤ i) (hi2 : i ≤ 9223372036854775807)
    (h : 1048576 < len0 ∨ 1048576 < len1 ∨ 1048576 < len0 + len1 ∨ i < 0 ∨ 1048576 < i) :
    Calls Trym.prog 4 #[.slice a0 len0 cap0, .slice a1 len1 cap1, .int .i64 i] w fun e w' => e = .returned (.bool true) ∧ Below w.heap.size w w' := by
  by_cases c0 : 1048576 < len0
  · go_enter Trym.func4, Trym.ntmps4
    go_wp2_with (go_at_call 15; go_in)
    go_ret
    exact ⟨rfl, Below.refl _ _⟩
  · by_cases c1 : 1048576 < len1
    · go_enter Trym.func4, Trym.ntmps4
      go_wp2_with (go_at_call 15; go_in)
      go_ret
      exact ⟨rfl, Below.refl _ _⟩
    · by_cases c2 : 1048576 < len0 + len1
      · go_enter Trym.func4, Trym.ntmps4
        go_wp2_with (go_at_call 15; go_in)
        go_ret
        exact ⟨rfl, Below.refl _ _⟩
      · by_cases c3 : i < 0
        · go_enter Trym.func4, Trym.ntmps4
          go_wp2_with (go_at_call 15; go_in)
          go_ret
          exact ⟨rfl, Below.refl _ _⟩
        · have c4 : 1048576 < i := by omega
          go_enter Trym.func4, Trym.ntmps4
          go_wp2_with (go_at_call 15; go_in)
          go_ret
          exact ⟨rfl, Below.refl _ _⟩

set_option maxHeartbeats 800000 in
theorem law2_main {a0 a1 : Option Addr} {len0 cap0 len1 cap1 : Nat} {xs ys : List Int} {j : Nat} {w : World} (hp : Buf w.heap.size w a0 len0 cap0 xs) (hb : Buf w.heap.size w a1 len1 cap1 ys)
    (h : len0 + len1 ≤ 1048576) (hj : j ≤ 1048576) (r r2 : Int) (hr : Hid (V ys j = r)) (hr2 : Hid (V (xs ++ ys) (len0 + j) = r2)) (hcase : (r = -1 ∧ r2 = -1) ∨ (0 ≤ r ∧ r ≤ 1048576 ∧ r2 = len0 + r)) :
    Calls Trym.prog 4 #[.slice a0 len0 cap0, .slice a1 len1 cap1, .int .i64 j] w fun e w' => e = .returned (.bool true) ∧ Below w.heap.size w w' := by
  rcases hcase with ⟨rfl, rfl⟩ | ⟨k1, k2, rfl⟩
  all_goals
    go_enter Trym.func4, Trym.ntmps4
    go_wp2_with (go_at_call 15; go_in)
    refine (copy_any hp (by omega)).mono ?_
    rintro e w1 ⟨ao, rfl, hp1, hb1⟩
    go_wp2_with fail
    refine (copy_any ((hb.below hb1).mono hb1.size) (by omega)).mono ?_
    rintro e w2 ⟨bo, rfl, hq2, hb2⟩
    have hp2 := (hp1.below hb2).mono hb2.size
    have hB : Below w.heap.size w w2 := hb1.trans (hb2.mono hb1.size)
    clear hp hb hp1 hb1 hb2
    go_wp2_with fail
    refine (zzSkipValue_at hq2 (by omega) _ j rfl _ hr).mono ?_
    rintro e w3 ⟨rfl, rfl⟩
    go_wp2_with fail
    refine (cat_any hp2 hq2 (Nat.le_refl _) (by omega) (by omega)).mono ?_
    rintro e w4 ⟨g, cap, rfl, hown, hb4⟩
    go_wp2_with fail
    refine (zzSkipValue_at hown.buf (by omega) _ (len0 + j) (by omega) _ hr2).mono ?_
    rintro e w5 ⟨rfl, rfl⟩
    go_wp2_with fail
    go_ret
    exact ⟨ret_bool (by simp), hB.trans (hb4.mono hB.size)⟩

theorem law2_walk {a0 a1 : Option Addr} {len0 cap0 len1 cap1 : Nat} {xs ys : List Int} {i : Int} {w : World} (hp : Buf w.heap.size w a0 len0 cap0 xs) (hb : Buf w.heap.size w a1 len1 cap1 ys)
    (hi : -9223372036854775808 ≤ i ∧ i ≤ 9223372036854775807) :
    Calls Trym.prog 4 #[.slice a0 len0 cap0, .slice a1 len1 cap1, .int .i64 i] w fun e w' => e = .returned (.bool true) ∧ Below w.heap.size w w' := by
  by_cases h : 1048576 < len0 ∨ 1048576 < len1 ∨ 1048576 < len0 + len1 ∨ i < 0 ∨ 1048576 < i
  · exact law2_early hi.1 hi.2 h
  · obtain ⟨j, rfl⟩ : ∃ j : Nat, i = (j : Int) := ⟨i.toNat, by omega⟩
    have e := V_prefix xs ys j
    rw [hp.length] at e
    have hl := hb.length
    rcases V_range ys j with hV | ⟨hV1, hV2⟩
    · rw [if_pos hV] at e
      exact law2_main hp hb (by omega) (by omega) (-1) (-1) hV e (.inl ⟨rfl, rfl⟩)
    · rw [if_neg (by omega)] at e
      exact law2_main hp hb (by omega) (by omega) (V ys j) _ rfl e (.inr ⟨by omega, by omega, rfl⟩)
end Go.Proofs.Qxb6001151aMods
