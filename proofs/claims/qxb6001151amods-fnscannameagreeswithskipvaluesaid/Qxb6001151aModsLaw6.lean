/-
  THE WALK: FnScanNameAgreesWithSkipValue.
-/
import Derived.Test.Qxb6001151aModsLaw5
namespace Go.Proofs.Qxb6001151aMods
open Go.RowKit Plain

set_option maxHeartbeats 400000 in
theorem law6_no {a0 : Option Addr} {len0 cap0 : Nat} {zs : List Int} {j : Nat} {w : World} (hb0 : Buf w.heap.size w a0 len0 cap0 zs) (hlen : len0 ≤ 1048576) (hn : Hid (∀ e c, ¬ Acc zs j e c)) :
    Calls Trym.prog 8 #[.slice a0 len0 cap0, .int .i64 j] w fun e w' => e = .returned (.bool true) ∧ Below w.heap.size w w' := by
  go_enter Trym.func8, Trym.ntmps8
  go_wp2_with (go_at_call 26; go_in)
  refine (copy_any hb0 (by omega)).mono ?_
  rintro e w1 ⟨ao, rfl, hb1, hbel⟩
  go_wp2_with fail
  refine (zzScanName_no hb1 (by omega) j hn).mono ?_
  rintro e w2 ⟨rfl, rfl⟩
  go_wp2_with fail
  go_ret
  exact ⟨rfl, hbel⟩

set_option maxHeartbeats 400000 in
theorem law6_acc {a0 : Option Addr} {len0 cap0 : Nat} {zs : List Int} {j m c : Nat} {w : World} (hb0 : Buf w.heap.size w a0 len0 cap0 zs) (hlen : len0 ≤ 1048576) (ha : Hid (Acc zs j (j + 2 + m) c)) :
    Calls Trym.prog 8 #[.slice a0 len0 cap0, .int .i64 j] w fun e w' => e = .returned (.bool true) ∧ Below w.heap.size w w' := by
  have hbd := ha.out.bounds
  have hzl : Hid (zs.length = len0) := hb0.length
  have h1 : j + 2 + m ≤ c := by omega
  have h2 : c < len0 := by have := ha.out.2.2.2.2.1; rw [hzl.out] at this; exact this
  have HV : Hid (V zs j = (j : Int) + (m : Int) + 2) := by
    have a := V_string ha.out.1 ha.out.2.1
    have b := ha.out.2.2.1
    show V zs j = (j : Int) + (m : Int) + 2
    rw [a, b]; omega
  clear hbd
  go_enter Trym.func8, Trym.ntmps8
  go_wp2_with (go_at_call 26; go_in)
  refine (copy_any hb0 (by omega)).mono ?_
  rintro e w1 ⟨ao, rfl, hb1, hbel⟩
  go_wp2_with fail
  refine (zzScanName_m hb1 (by omega) j m c ha).mono ?_
  rintro e w2 ⟨no, rfl, hbn, rfl⟩
  go_wp2_with fail
  refine (zzSkipValue_buf hb1 (by omega) j _ HV).mono ?_
  rintro e w3 ⟨rfl, rfl⟩
  go_wp2_with fail
  all_goals
    go_ret
    exact ⟨ret_bool (by simp; omega), hbel⟩

theorem law6_walk {a0 : Option Addr} {len0 cap0 : Nat} {zs : List Int} {a1 : Int} {w : World} (hb0 : Buf w.heap.size w a0 len0 cap0 zs) (hi : -9223372036854775808 ≤ a1 ∧ a1 ≤ 9223372036854775807) :
    Calls Trym.prog 8 #[.slice a0 len0 cap0, .int .i64 a1] w fun e w' => e = .returned (.bool true) ∧ Below w.heap.size w w' := by
  obtain ⟨hi1, hi2⟩ := hi
  by_cases hlen : len0 ≤ 1048576
  · by_cases hneg : a1 < 0
    · go_enter Trym.func8, Trym.ntmps8
      go_wp2
      go_ret
      exact ⟨rfl, Below.refl _ _⟩
    · obtain ⟨j, rfl⟩ : ∃ j : Nat, a1 = (j : Int) := ⟨a1.toNat, by omega⟩
      by_cases h : ∃ e c, Acc zs j e c
      · obtain ⟨e, c, ha⟩ := h
        have hb := ha.bounds
        obtain ⟨m, rfl⟩ : ∃ m, e = j + 2 + m := ⟨e - (j + 2), by omega⟩
        exact law6_acc hb0 hlen ha
      · exact law6_no hb0 hlen (fun e c ha => h ⟨e, c, ha⟩)
  · go_enter Trym.func8, Trym.ntmps8
    go_wp2
    go_ret
    exact ⟨rfl, Below.refl _ _⟩

end Go.Proofs.Qxb6001151aMods
