/-
  THE WALK: FnSkipValueBoundsAndTruncation.
-/
import Derived.Test.Qxb6001151aModsCopy
namespace Go.Proofs.Qxb6001151aMods
open Go.RowKit Plain

set_option maxHeartbeats 400000 in
theorem law1_walk {a0 : Option Addr} {len0 cap0 : Nat} {zs : List Int} {a1 : Int} {w : World} (hb0 : Buf w.heap.size w a0 len0 cap0 zs) (hi : -9223372036854775808 ≤ a1 ∧ a1 ≤ 9223372036854775807) :
    Calls Trym.prog 3 #[.slice a0 len0 cap0, .int .i64 a1] w fun e w' => e = .returned (.bool true) ∧ Below w.heap.size w w' := by
  obtain ⟨hi1, hi2⟩ := hi
  by_cases hlen : len0 ≤ 1048576
  · by_cases hneg : a1 < 0
    · go_enter Trym.func3, Trym.ntmps3
      go_wp2
      go_ret
      exact ⟨rfl, Below.refl _ _⟩
    · obtain ⟨j, rfl⟩ : ∃ j : Nat, a1 = (j : Int) := ⟨a1.toNat, by omega⟩
      have hzl : Hid (zs.length = len0) := hb0.length
      rcases V_range zs j with hV | ⟨hV1, hV2⟩
      · have HV : Hid (V zs j = -1) := hV
        clear hV
        go_enter Trym.func3, Trym.ntmps3
        go_wp2_with (first | (go_at_call 13; refine (copy_any hb0 (by omega)).mono ?_; rintro e w1 ⟨ao, rfl, hb1, hbel⟩) | (go_at_call 14; refine (zzSkipValue_buf hb1 (by omega) j (-1) HV).mono ?_; rintro e w2 ⟨rfl, rfl⟩) | (go_at_call 12; go_in))
        go_ret
        exact ⟨rfl, hbel⟩
      · obtain ⟨r, hr⟩ : ∃ r : Nat, V zs j = (r : Int) := ⟨(V zs j).toNat, by omega⟩
        have HV : Hid (V zs j = r) := hr
        have HV2 : Hid (V (zs.take r) j = r) := V_take hr
        have h1 : j < r := by rw [hr] at hV1; omega
        have h2 : r ≤ len0 := by rw [hr, hzl.out] at hV2; omega
        clear hV1 hV2 hr
        go_enter Trym.func3, Trym.ntmps3
        go_wp2_with (first | (go_at_call 13; refine (copy_any hb0 (by omega)).mono ?_; rintro e w1 ⟨ao, rfl, hb1, hbel⟩) | (go_at_call 14; refine (zzSkipValue_buf hb1 (by omega) j r HV).mono ?_; rintro e w2 ⟨rfl, rfl⟩; clear HV) | (go_at_call 12; go_in))
        refine (zzSkipValue_buf (hb1.take h2) (by omega) j r HV2).mono ?_
        rintro e w2 ⟨rfl, rfl⟩
        go_wp2_with fail
        go_ret
        exact ⟨ret_bool (by simp), hbel⟩
  · go_enter Trym.func3, Trym.ntmps3
    go_wp2
    go_ret
    exact ⟨rfl, Below.refl _ _⟩
end Go.Proofs.Qxb6001151aMods
