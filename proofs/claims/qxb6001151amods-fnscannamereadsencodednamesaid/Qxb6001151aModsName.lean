/-
  THE WALKS: scanName, ZZscanName.
-/
import Derived.Test.Qxb6001151aModsCopy
namespace Go.Proofs.Qxb6001151aMods
open Go.RowKit Plain

/-- What scanName answers where it refuses. -/
def Refuses (f : FuncId) (ao : Option Addr) (len cap : Nat) (i : Int) (w : World) : Prop :=
  Calls Trym.prog f #[.slice ao len cap, .int .i64 i] w fun e w' => e = .returned (.tuple #[.slice none 0 0, .int .i64 (-1)]) ∧ w = w'

set_option maxHeartbeats 400000 in
theorem scanName_end (ao : Option Addr) (len cap : Nat) (i : Int) (w : World) (hi : (len : Int) ≤ i) : Refuses 34 ao len cap i w := by
  unfold Refuses
  go_enter Trym.func34, Trym.ntmps34
  go_wp2_with fail
  go_ret2
  exact ⟨rfl, rfl⟩

set_option maxHeartbeats 400000 in
theorem scanName_noquote (b off len cap : Nat) (zs : List Int) (i : Nat) (w : World) (hi : i < len) (hq : (bt zs i != 34) = true)
    (hc : w.cell? ⟨b, off + i, none⟩ = some (.int .u8 (bt zs i))) : Refuses 34 (some ⟨b, off, none⟩) len cap i w := by
  unfold Refuses
  have hge : ¬ len ≤ i := by omega
  go_enter Trym.func34, Trym.ntmps34
  go_wp2_with fail
  go_ret2
  exact ⟨rfl, rfl⟩

set_option maxHeartbeats 400000 in
theorem scanName_open (b off len cap : Nat) (zs : List Int) (i : Nat) (w : World) (hi : i < len) (hm : len ≤ 1099511627776) (hl : Hid (zs.length = len)) (hq : (bt zs i != 34) = false) (hS : Hid (S zs (i + 1) = -1))
    (hc : ∀ i, i < len → w.cell? ⟨b, off + i, none⟩ = some (.int .u8 (bt zs i))) : Refuses 34 (some ⟨b, off, none⟩) len cap i w := by
  unfold Refuses
  have hge : ¬ len ≤ i := by omega
  have hci := hc i hi
  go_enter Trym.func34, Trym.ntmps34
  go_wp2_with fail
  refine (skipString_r b off len cap zs i (-1) _ hS hl (by omega) (by omega) hc).mono ?_
  rintro e w' ⟨rfl, rfl⟩
  go_wp2_with fail
  go_ret2
  exact ⟨rfl, rfl⟩

theorem skipSpace_r (b off len cap : Nat) (zs : List Int) (j r : Nat) (w : World) (hr : Hid (R spcB zs j = r)) (hl : Hid (zs.length = len)) (hm : len ≤ 1099511627776) (hj : j ≤ len)
    (hc : ∀ i, i < len → w.cell? ⟨b, off + i, none⟩ = some (.int .u8 (bt zs i))) :
    Calls Trym.prog 38 #[.slice (some ⟨b, off, none⟩) len cap, .int .i64 j] w fun e w' => e = .returned (.int .i64 r) ∧ w = w' := by
  have h := skipSpace_any b off len cap zs j w hl hm hj hc
  rw [hr.out] at h
  exact h

set_option maxHeartbeats 400000 in
theorem scanName_str (b off len cap : Nat) (zs : List Int) (i e c : Nat) (w : World) (hi : i < len) (hm : len ≤ 1099511627776) (hcap : len ≤ cap) (hl : Hid (zs.length = len)) (hq : (bt zs i != 34) = false) (hS : Hid (S zs (i + 1) = (e : Int)))
    (he1 : i + 2 ≤ e) (he2 : e ≤ len) (hR : Hid (R spcB zs e = c)) (hc1 : e ≤ c) (_hc2 : c ≤ len)
    (hc : ∀ i, i < len → w.cell? ⟨b, off + i, none⟩ = some (.int .u8 (bt zs i))) (hcol : c < len) (hcol2 : (bt zs c != 58) = false) :
    Calls Trym.prog 34 #[.slice (some ⟨b, off, none⟩) len cap, .int .i64 i] w fun x w' => x = .returned (.tuple #[.slice (some ⟨b, off + (i + 1), none⟩) (e - 1 - (i + 1)) (cap - (i + 1)), .int .i64 ((c : Int) + 1)]) ∧ w = w' := by
  have hge : ¬ len ≤ i := by omega
  have hci := hc i hi
  have hcc := hc c hcol
  have hce : ¬ cap = i + 1 := by omega
  go_enter Trym.func34, Trym.ntmps34
  go_wp2_with fail
  refine (skipString_r b off len cap zs i e _ hS hl (by omega) (by omega) hc).mono ?_
  rintro x w' ⟨rfl, rfl⟩
  go_wp2_with fail
  refine (skipSpace_r b off len cap zs e c _ hR hl (by omega) (by omega) hc).mono ?_
  rintro x w' ⟨rfl, rfl⟩
  go_wp2_with fail
  go_ret2
  exact ⟨rfl, rfl⟩

set_option maxHeartbeats 400000 in
theorem scanName_nocolon (b off len cap : Nat) (zs : List Int) (i e c : Nat) (w : World) (hi : i < len) (hm : len ≤ 1099511627776) (hcap : len ≤ cap) (hl : Hid (zs.length = len)) (hq : (bt zs i != 34) = false) (hS : Hid (S zs (i + 1) = (e : Int)))
    (he1 : i + 2 ≤ e) (he2 : e ≤ len) (hR : Hid (R spcB zs e = c)) (hc1 : e ≤ c) (hc2 : c ≤ len)
    (hc : ∀ i, i < len → w.cell? ⟨b, off + i, none⟩ = some (.int .u8 (bt zs i))) (hcol : c < len → (bt zs c != 58) = true) : Refuses 34 (some ⟨b, off, none⟩) len cap i w := by
  unfold Refuses
  have hge : ¬ len ≤ i := by omega
  have hci := hc i hi
  have hce : ¬ cap = i + 1 := by omega
  by_cases hcl : c < len
  · have hcc := hc c hcl
    have hcol2 := hcol hcl
    have hge2 : ¬ len ≤ c := by omega
    clear hcol
    go_enter Trym.func34, Trym.ntmps34
    go_wp2_with fail
    refine (skipString_r b off len cap zs i e _ hS hl (by omega) (by omega) hc).mono ?_
    rintro x w' ⟨rfl, rfl⟩
    go_wp2_with fail
    refine (skipSpace_r b off len cap zs e c _ hR hl (by omega) (by omega) hc).mono ?_
    rintro x w' ⟨rfl, rfl⟩
    go_wp2_with fail
    go_ret2
    exact ⟨rfl, rfl⟩
  · have hge2 : len ≤ c := by omega
    clear hcol
    go_enter Trym.func34, Trym.ntmps34
    go_wp2_with fail
    refine (skipString_r b off len cap zs i e _ hS hl (by omega) (by omega) hc).mono ?_
    rintro x w' ⟨rfl, rfl⟩
    go_wp2_with fail
    refine (skipSpace_r b off len cap zs e c _ hR hl (by omega) (by omega) hc).mono ?_
    rintro x w' ⟨rfl, rfl⟩
    go_wp2_with fail
    go_ret2
    exact ⟨rfl, rfl⟩

theorem bt_drop_take {zs : List Int} {i k n : Nat} (h : k < n) : bt ((zs.drop i).take n) k = bt zs (i + k) := by
  rw [bt_take h, bt_drop]

/-- scanName where it accepts. -/
theorem scanName_acc {B : Nat} {ao : Option Addr} {len cap : Nat} {zs : List Int} {w : World} (h : Buf B w ao len cap zs) (hm : len ≤ 1099511627776) (i e c : Nat) (ha : Acc zs i e c) :
    Calls Trym.prog 34 #[.slice ao len cap, .int .i64 i] w fun x w' => ∃ no, x = .returned (.tuple #[.slice no (e - 1 - (i + 1)) (cap - (i + 1)), .int .i64 ((c : Int) + 1)]) ∧
      Buf B w no (e - 1 - (i + 1)) (cap - (i + 1)) ((zs.drop (i + 1)).take (e - 1 - (i + 1))) ∧ w = w' := by
  have hb := ha.bounds
  obtain ⟨a1, a2, a3, a4, a5, a6⟩ := ha
  have hl := h.length
  have hr := h.room
  obtain ⟨b, off, rfl, hB, hc⟩ := h.cells (by omega)
  refine (scanName_str b off len cap zs i e c w (by omega) hm h.room hl (by simp [a2]) a3 (by omega) (by omega) a4 (by omega) (by omega) hc (by omega) (by simp [a6])).mono ?_
  rintro x w' ⟨hx, rfl⟩
  refine ⟨_, hx, ⟨by simp; omega, by omega, fun hn => by simp at hn, fun _ => ⟨b, off + (i + 1), rfl, hB, fun k hk => ?_⟩⟩, rfl⟩
  rw [bt_drop_take hk, Nat.add_assoc]
  exact hc (i + 1 + k) (by omega)

/-- scanName where it refuses. -/
theorem scanName_no {B : Nat} {ao : Option Addr} {len cap : Nat} {zs : List Int} {w : World} (h : Buf B w ao len cap zs) (hm : len ≤ 1099511627776) (i : Nat) (hn : ∀ e c, ¬ Acc zs i e c) : Refuses 34 ao len cap i w := by
  have hl := h.length
  by_cases hi : i < len
  · obtain ⟨b, off, rfl, hB, hc⟩ := h.cells (by omega)
    by_cases hq : bt zs i = 34
    · rcases S_range zs (i + 1) with hS | ⟨hS1, hS2⟩
      · exact scanName_open b off len cap zs i w hi hm hl (by simp [hq]) hS hc
      · obtain ⟨e, he⟩ : ∃ e : Nat, S zs (i + 1) = (e : Int) := ⟨(S zs (i + 1)).toNat, by omega⟩
        have hRr := R_range spcB zs e (by omega)
        refine scanName_nocolon b off len cap zs i e (R spcB zs e) w hi hm h.room hl (by simp [hq]) he (by omega) (by omega) rfl (by omega) (by omega) hc (fun hcl => ?_)
        have : ¬ bt zs (R spcB zs e) = 58 := fun h58 => hn e _ ⟨by omega, hq, he, rfl, by omega, h58⟩
        simpa using this
    · exact scanName_noquote b off len cap zs i w hi (by simpa using hq) (hc i hi)
  · exact scanName_end ao len cap i w (by omega)

set_option maxHeartbeats 400000 in
theorem zzScanName_acc {B : Nat} {ao : Option Addr} {len cap : Nat} {zs : List Int} {w : World} (h : Buf B w ao len cap zs) (hm : len ≤ 1099511627776) (i e c : Nat) (ha : Hid (Acc zs i e c)) :
    Calls Trym.prog 22 #[.slice ao len cap, .int .i64 i] w fun x w' => ∃ no, x = .returned (.tuple #[.slice no (e - 1 - (i + 1)) (cap - (i + 1)), .int .i64 ((c : Int) + 1)]) ∧
      Buf B w no (e - 1 - (i + 1)) (cap - (i + 1)) ((zs.drop (i + 1)).take (e - 1 - (i + 1))) ∧ w = w' := by
  go_enter Trym.func22, Trym.ntmps22
  go_wp2_with fail
  refine (scanName_acc h hm i e c ha.out).mono ?_
  rintro x w' ⟨no, rfl, hb, rfl⟩
  go_wp2_with fail
  go_ret2
  exact ⟨no, rfl, hb, rfl⟩

set_option maxHeartbeats 400000 in
theorem zzScanName_no {B : Nat} {ao : Option Addr} {len cap : Nat} {zs : List Int} {w : World} (h : Buf B w ao len cap zs) (hm : len ≤ 1099511627776) (i : Nat) (hn : Hid (∀ e c, ¬ Acc zs i e c)) : Refuses 22 ao len cap i w := by
  unfold Refuses
  go_enter Trym.func22, Trym.ntmps22
  go_wp2_with fail
  refine (scanName_no h hm i hn.out).mono ?_
  rintro x w' ⟨rfl, rfl⟩
  go_wp2_with fail
  go_ret2
  exact ⟨rfl, rfl⟩

end Go.Proofs.Qxb6001151aMods
