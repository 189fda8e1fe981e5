/-
  THE WALK: FnScanNameShape.
-/
import Derived.Test.Qxb6001151aModsSame
namespace Go.Proofs.Qxb6001151aMods
open Go.RowKit Plain

/-- scanName where it accepts, the name's length told as m. -/
theorem zzScanName_m {B : Nat} {ao : Option Addr} {len cap : Nat} {zs : List Int} {w : World} (h : Buf B w ao len cap zs) (hm : len ≤ 1099511627776) (i m c : Nat) (ha : Hid (Acc zs i (i + 2 + m) c)) :
    Calls Trym.prog 22 #[.slice ao len cap, .int .i64 i] w fun x w' => ∃ no, x = .returned (.tuple #[.slice no m (cap - (i + 1)), .int .i64 ((c : Int) + 1)]) ∧
      Buf B w no m (cap - (i + 1)) ((zs.drop (i + 1)).take m) ∧ w = w' := by
  have e : i + 2 + m - 1 - (i + 1) = m := by omega
  have := zzScanName_acc h hm i (i + 2 + m) c ha
  rw [e] at this
  exact this

theorem Buf.mid {B : Nat} {w : World} {b off len cap : Nat} {zs : List Int} (h : Buf B w (some ⟨b, off, none⟩) len cap zs) {i m : Nat} (hm : i + 1 + m ≤ len) : Buf B w (some ⟨b, off + (i + 1), none⟩) m (cap - (i + 1)) ((zs.drop (i + 1)).take m) := by
  have hl := h.length
  have hr := h.room
  refine ⟨by simp; omega, by omega, fun hn => by simp at hn, fun hp => ?_⟩
  obtain ⟨b', off', e, hB, hc⟩ := h.cells (by omega)
  simp only [Option.some.injEq, Addr.mk.injEq, and_true] at e
  obtain ⟨rfl, rfl⟩ := e
  refine ⟨b, off + (i + 1), rfl, hB, fun k hk => ?_⟩
  rw [bt_drop_take hk, Nat.add_assoc]
  exact hc (i + 1 + k) (by omega)

set_option maxHeartbeats 800000 in
theorem law5_no {a0 : Option Addr} {len0 cap0 : Nat} {zs : List Int} {j : Nat} {w : World} (hb0 : Buf w.heap.size w a0 len0 cap0 zs) (hlen : len0 ≤ 1048576) (hi2 : (j : Int) ≤ 9223372036854775807) (hn : Hid (∀ e c, ¬ Acc zs j e c)) :
    Calls Trym.prog 7 #[.slice a0 len0 cap0, .int .i64 j] w fun e w' => e = .returned (.bool true) ∧ Below w.heap.size w w' := by
  have q22 : ∀ (w : World) (a : Option Addr) (n c n' c' : Nat), (binOp .eql 22 (.slice a n c) (.slice none n' c')).run Trym.prog w = .ok (.bool a.isNone) w := fun w a n c n' c' => Lib.run_eql_slice_nil w _ _ a n c n' c' Trym.underlying22
  by_cases hj : j < len0
  · have hge : ¬ len0 ≤ j := by omega
    by_cases hq : (bt zs j != 34) = true
    · go_enter Trym.func7, Trym.ntmps7
      go_wp2_with (go_at_call 24; go_in)
      refine (copy_any hb0 (by omega)).mono ?_
      rintro e w1 ⟨ao, rfl, hb1, hbel⟩
      obtain ⟨b, off, rfl, _, hc⟩ := hb1.cells (by omega)
      have hcj := hc j hj
      go_wp2_with fail
      refine (zzScanName_no hb1 (by omega) j hn).mono ?_
      rintro e w2 ⟨rfl, rfl⟩
      go_wp2_with fail
      go_ret
      exact ⟨rfl, hbel⟩
    · have hq' : (bt zs j != 34) = false := by simpa using hq
      clear hq
      go_enter Trym.func7, Trym.ntmps7
      go_wp2_with (go_at_call 24; go_in)
      refine (copy_any hb0 (by omega)).mono ?_
      rintro e w1 ⟨ao, rfl, hb1, hbel⟩
      obtain ⟨b, off, rfl, _, hc⟩ := hb1.cells (by omega)
      have hcj := hc j hj
      go_wp2_with fail
      refine (zzScanName_no hb1 (by omega) j hn).mono ?_
      rintro e w2 ⟨rfl, rfl⟩
      go_wp2_with fail
      go_ret
      exact ⟨rfl, hbel⟩
  · have hge : len0 ≤ j := by omega
    go_enter Trym.func7, Trym.ntmps7
    go_wp2_with (go_at_call 24; go_in)
    refine (copy_any hb0 (by omega)).mono ?_
    rintro e w1 ⟨ao, rfl, hb1, hbel⟩
    go_wp2_with fail
    refine (zzScanName_no hb1 (by omega) j hn).mono ?_
    rintro e w2 ⟨rfl, rfl⟩
    go_wp2_with fail
    go_ret
    exact ⟨rfl, hbel⟩

set_option maxHeartbeats 800000 in
theorem law5_acc {a0 : Option Addr} {len0 cap0 : Nat} {zs : List Int} {j m c : Nat} {w : World} (hb0 : Buf w.heap.size w a0 len0 cap0 zs) (hlen : len0 ≤ 1048576) (ha : Hid (Acc zs j (j + 2 + m) c)) :
    Calls Trym.prog 7 #[.slice a0 len0 cap0, .int .i64 j] w fun e w' => e = .returned (.bool true) ∧ Below w.heap.size w w' := by
  have hbd := ha.out.bounds
  have hzl : Hid (zs.length = len0) := hb0.length
  have h1 : j + 2 + m ≤ c := by omega
  have h2 : c < len0 := by have := ha.out.2.2.2.2.1; rw [hzl.out] at this; exact this
  have hj : j < len0 := by omega
  have hge : ¬ len0 ≤ j := by omega
  have hq : (bt zs j != 34) = false := by simp [ha.out.2.1]
  have hcol : (bt zs c != 58) = false := by simp [ha.out.2.2.2.2.2]
  have hq2 : (bt zs (j + 1 + m) != 34) = false := by
    have := S_last ha.out.2.2.1
    rw [show j + 2 + m - 1 = j + 1 + m by omega] at this
    simp [this]
  have HR : Hid (∀ k, j + 2 + m ≤ k → k < c → spcB (bt zs k) = true) := fun k k1 k2 => R_all spcB zs (j + 2 + m) k k1 (by rw [ha.out.2.2.2.1]; exact k2)
  clear hbd
  go_enter Trym.func7, Trym.ntmps7
  go_wp2_with (go_at_call 24; go_in)
  refine (copy_any hb0 (by omega)).mono ?_
  rintro e w1 ⟨ao, rfl, hb1, hbel⟩
  obtain ⟨b, off, rfl, hB, hc⟩ := hb1.cells (by omega)
  have hcj := hc j hj
  have hcc := hc c h2
  have hcq := hc (j + 1 + m) (by omega)
  go_wp2_with fail
  refine (zzScanName_m hb1 (by omega) j m c ha).mono ?_
  rintro e w2 ⟨no, rfl, hbn, rfl⟩
  go_wp2_with fail
  refine (same_any hbn (hb1.mid (by omega)) (Nat.le_refl _) (by omega)).mono ?_
  rintro e w3 ⟨rfl, hb3⟩
  have hcq3 : w3.cell? ⟨b, off + (j + 1 + m), none⟩ = some (.int .u8 (bt zs (j + 1 + m))) := (hb3.cell (p := ⟨b, off + (j + 1 + m), none⟩) hB).trans hcq
  have hall : Below w.heap.size w w3 := hbel.trans (hb3.mono hbel.size)
  clear hcj hcc hcq hbel
  go_wp2_with fail
  go_loop [8] (fun i => ∃ k : Nat, j + 2 + m ≤ k ∧ k ≤ c ∧ i = .int .i64 k) (fun i => c - (intOf i).toNat)
  case atStart => exact ⟨j + 2 + m, by omega, by omega, by go_num⟩
  case round =>
    obtain ⟨k, hk1, hk2, rfl⟩ := hrel
    by_cases hlt : k < c
    · have hsp := HR.out k hk1 hlt
      have hck : w3.cell? ⟨b, off + k, none⟩ = some (.int .u8 (bt zs k)) := (hb3.cell (p := ⟨b, off + k, none⟩) hB).trans (hc k (by omega))
      go_wp2_with (go_at_call 25; refine (zzIsSpace_any _ _).mono ?_; rintro e w' ⟨rfl, rfl⟩)
      go_round
      case rel => exact ⟨k + 1, by omega, by omega, by go_num⟩
      case measure => simp [intOf]; omega
    · go_wp2_with fail
      go_ret
      exact ⟨rfl, hall⟩

theorem law5_walk {a0 : Option Addr} {len0 cap0 : Nat} {zs : List Int} {a1 : Int} {w : World} (hb0 : Buf w.heap.size w a0 len0 cap0 zs) (hi : -9223372036854775808 ≤ a1 ∧ a1 ≤ 9223372036854775807) :
    Calls Trym.prog 7 #[.slice a0 len0 cap0, .int .i64 a1] w fun e w' => e = .returned (.bool true) ∧ Below w.heap.size w w' := by
  obtain ⟨hi1, hi2⟩ := hi
  by_cases hlen : len0 ≤ 1048576
  · by_cases hneg : a1 < 0
    · go_enter Trym.func7, Trym.ntmps7
      go_wp2
      go_ret
      exact ⟨rfl, Below.refl _ _⟩
    · obtain ⟨j, rfl⟩ : ∃ j : Nat, a1 = (j : Int) := ⟨a1.toNat, by omega⟩
      by_cases h : ∃ e c, Acc zs j e c
      · obtain ⟨e, c, ha⟩ := h
        have hb := ha.bounds
        obtain ⟨m, rfl⟩ : ∃ m, e = j + 2 + m := ⟨e - (j + 2), by omega⟩
        exact law5_acc hb0 hlen ha
      · exact law5_no hb0 hlen hi2 (fun e c ha => h ⟨e, c, ha⟩)
  · go_enter Trym.func7, Trym.ntmps7
    go_wp2
    go_ret
    exact ⟨rfl, Below.refl _ _⟩

end Go.Proofs.Qxb6001151aMods
