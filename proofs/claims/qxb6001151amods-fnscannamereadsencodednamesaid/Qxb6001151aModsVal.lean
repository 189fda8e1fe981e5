/-
  THE WALK: skipValue.
-/
import Derived.Test.Qxb6001151aModsStr
namespace Go.Proofs.Qxb6001151aMods
open Go.RowKit Plain

theorem skipString_r (b off len cap : Nat) (zs : List Int) (j : Nat) (r : Int) (w : World) (hr : Hid (S zs (j + 1) = r)) (hl : Hid (zs.length = len)) (hm : len ≤ 1099511627776) (hj : j ≤ 1099511627776)
    (hc : ∀ i, i < len → w.cell? ⟨b, off + i, none⟩ = some (.int .u8 (bt zs i))) :
    Calls Trym.prog 36 #[.slice (some ⟨b, off, none⟩) len cap, .int .i64 j] w fun e w' => e = .returned (.int .i64 r) ∧ w = w' := by
  have h := skipString_any b off len cap zs j w hl hm hj hc
  rw [hr.out] at h
  exact h

set_option maxHeartbeats 400000 in
theorem skipValue_end (ao : Option Addr) (len cap : Nat) (i : Int) (w : World) (hi : (len : Int) ≤ i) :
    Calls Trym.prog 33 #[.slice ao len cap, .int .i64 i] w fun e w' => e = .returned (.int .i64 (-1)) ∧ w = w' := by
  go_enter Trym.func33, Trym.ntmps33
  go_wp2_with fail
  go_ret
  exact ⟨rfl, rfl⟩

set_option maxHeartbeats 400000 in
theorem skipValue_str (b off len cap : Nat) (zs : List Int) (j : Nat) (w : World) (hl : Hid (zs.length = len)) (hm : len ≤ 1099511627776) (hj : j < len)
    (hc : ∀ i, i < len → w.cell? ⟨b, off + i, none⟩ = some (.int .u8 (bt zs i))) (hb : (bt zs j == 34) = true) :
    Calls Trym.prog 33 #[.slice (some ⟨b, off, none⟩) len cap, .int .i64 j] w fun e w' => e = .returned (.int .i64 (V zs j)) ∧ w = w' := by
  have hcj := hc j hj
  have hge : ¬ len ≤ j := by omega
  go_enter Trym.func33, Trym.ntmps33
  go_wp2_with (go_at_call 36; refine (skipString_any b off len cap zs j _ hl (by omega) (by omega) (by assumption)).mono ?_; rintro e w' ⟨rfl, rfl⟩)
  go_ret
  exact ⟨ret_int (V_string (by rw [hl.out]; omega) (by simpa using hb)).symm, rfl⟩

set_option maxHeartbeats 1000000 in
theorem skipValue_br (b off len cap : Nat) (zs : List Int) (j : Nat) (w : World) (hl : Hid (zs.length = len)) (hm : len ≤ 1099511627776) (hj : j < len)
    (hc : ∀ i, i < len → w.cell? ⟨b, off + i, none⟩ = some (.int .u8 (bt zs i))) (hb : Hid (bt zs j = 123 ∨ bt zs j = 91)) :
    Calls Trym.prog 33 #[.slice (some ⟨b, off, none⟩) len cap, .int .i64 j] w fun e w' => e = .returned (.int .i64 (V zs j)) ∧ w = w' := by
  have hcj := hc j hj
  have hge : ¬ len ≤ j := by omega
  have hV : Hid (V zs j = B zs 0 j) := V_open (by rw [hl.out]; exact hj) hb.out
  have h34 : (bt zs j == 34) = false := by rcases hb.out with h | h <;> rw [h] <;> rfl
  have hw : Hid ((bt zs j == 123) = true ∨ ((bt zs j == 123) = false ∧ (bt zs j == 91) = true)) := by rcases hb.out with h | h <;> rw [h] <;> unfold Hid <;> simp
  rcases hw.out with h | ⟨h, h'⟩
  all_goals
    go_enter Trym.func33, Trym.ntmps33
    go_wp2_with fail
    go_loop [1, 5] (fun i d => ∃ k : Nat, ∃ dd : Int, k ≤ len ∧ -(k : Int) ≤ dd ∧ dd ≤ (k : Int) ∧ i = .int .i64 k ∧ d = .int .i64 dd ∧ Hid (B zs dd k = V zs j)) (fun i _ => len - (intOf i).toNat)
    case atStart => exact ⟨j, 0, by omega, by omega, by omega, rfl, rfl, hV.out.symm⟩
    case round =>
      clear hcj h34 h hw
      obtain ⟨k, dd, hk, hd1, hd2, rfl, rfl, hB⟩ := hrel
      by_cases hlt : k < len
      · have hck := hc k hlt
        have HK : Hid (k < zs.length) := by rw [hl.out]; exact hlt
        by_cases hq : (bt zs k == 34) = true
        · rcases S_range zs (k + 1) with hs | ⟨hs1, hs2⟩
          · have HS : Hid (S zs (k + 1) = -1) := hs
            clear hs
            go_wp2_with (go_at_call 36; refine (skipString_r b off len cap zs k (-1) _ HS hl (by omega) (by omega) (by assumption)).mono ?_; rintro e w' ⟨rfl, rfl⟩)
            go_ret
            exact ⟨ret_int (by rw [← hB.out, B_quote HK.out (by simpa using hq) HS.out]), rfl⟩
          · obtain ⟨m, hm'⟩ : ∃ m : Nat, S zs (k + 1) = m := ⟨(S zs (k + 1)).toNat, by omega⟩
            have HS : Hid (S zs (k + 1) = m) := hm'
            have hmk : k + 1 < m := by rw [hm'] at hs1; omega
            have hml : m ≤ len := by rw [hm', hl.out] at hs2; omega
            clear hs1 hs2 hm'
            go_wp2_with (go_at_call 36; refine (skipString_r b off len cap zs k m _ HS hl (by omega) (by omega) (by assumption)).mono ?_; rintro e w' ⟨rfl, rfl⟩)
            go_round
            case rel => exact ⟨m, dd, hml, by omega, by omega, rfl, rfl, (B_string HK.out (by simpa using hq) HS.out).symm.trans hB.out⟩
            case measure => simp [intOf]; omega
        · have hq' : (bt zs k == 34) = false := by simpa using hq
          clear hq
          have n1 : Hid (bt zs k ≠ 34) := by simpa [Hid] using hq'
          go_wp2_with fail
          · have h2 : (bt zs k == 123) = true := by assumption
            go_round
            case rel => exact ⟨k + 1, dd + 1, by omega, by omega, by omega, by go_num, rfl, (B_open HK.out (.inl (by simpa using h2))).symm.trans hB.out⟩
            case measure => simp [intOf]; omega
          · have h2 : (bt zs k == 91) = true := by assumption
            go_round
            case rel => exact ⟨k + 1, dd + 1, by omega, by omega, by omega, by go_num, rfl, (B_open HK.out (.inr (by simpa using h2))).symm.trans hB.out⟩
            case measure => simp [intOf]; omega
          · have h2 : (bt zs k == 125) = true := by assumption
            have h3 : (dd - 1 == 0) = true := by assumption
            go_ret
            exact ⟨ret_int (by rw [← hB.out, B_last HK.out (.inl (by simpa using h2)) (by simp at h3; omega)]), rfl⟩
          · have h2 : (bt zs k == 125) = true := by assumption
            have h3 : (dd - 1 == 0) = false := by assumption
            go_round
            case rel => exact ⟨k + 1, dd - 1, by omega, by omega, by omega, by go_num, rfl, (B_close HK.out (.inl (by simpa using h2)) (by simp at h3; omega)).symm.trans hB.out⟩
            case measure => simp [intOf]; omega
          · have h2 : (bt zs k == 93) = true := by assumption
            have h3 : (dd - 1 == 0) = true := by assumption
            go_ret
            exact ⟨ret_int (by rw [← hB.out, B_last HK.out (.inr (by simpa using h2)) (by simp at h3; omega)]), rfl⟩
          · have h2 : (bt zs k == 93) = true := by assumption
            have h3 : (dd - 1 == 0) = false := by assumption
            go_round
            case rel => exact ⟨k + 1, dd - 1, by omega, by omega, by omega, by go_num, rfl, (B_close HK.out (.inr (by simpa using h2)) (by simp at h3; omega)).symm.trans hB.out⟩
            case measure => simp [intOf]; omega
          · have h2 : (bt zs k == 123) = false := by assumption
            have h3 : (bt zs k == 91) = false := by assumption
            have h4 : (bt zs k == 125) = false := by assumption
            have h5 : (bt zs k == 93) = false := by assumption
            go_round
            case rel => exact ⟨k + 1, dd, by omega, by omega, by omega, by go_num, rfl, (B_other HK.out n1.out (by simpa using h2) (by simpa using h3) (by simpa using h4) (by simpa using h5)).symm.trans hB.out⟩
            case measure => simp [intOf]; omega
      · go_wp2_with fail
        go_ret
        exact ⟨ret_int (by rw [← hB.out, B_end (by rw [hl.out]; omega)]), rfl⟩

set_option maxHeartbeats 1000000 in
theorem skipValue_num (b off len cap : Nat) (zs : List Int) (j : Nat) (w : World) (hl : Hid (zs.length = len)) (hm : len ≤ 1099511627776) (hj : j < len)
    (hc : ∀ i, i < len → w.cell? ⟨b, off + i, none⟩ = some (.int .u8 (bt zs i))) (h1 : (bt zs j == 34) = false) (h2 : (bt zs j == 123) = false) (h3 : (bt zs j == 91) = false) :
    Calls Trym.prog 33 #[.slice (some ⟨b, off, none⟩) len cap, .int .i64 j] w fun e w' => e = .returned (.int .i64 (V zs j)) ∧ w = w' := by
  have hcj := hc j hj
  have hge : ¬ len ≤ j := by omega
  go_enter Trym.func33, Trym.ntmps33
  go_wp2_with fail
  go_loop [6] (fun i => ∃ k : Nat, j ≤ k ∧ k ≤ len ∧ i = .int .i64 k ∧ Hid (R (fun c => !endsB c) zs k = R (fun c => !endsB c) zs j)) (fun i => len - (intOf i).toNat)
  case atStart => exact ⟨j, by omega, by omega, rfl, rfl⟩
  case round =>
    obtain ⟨k, hk0, hk, rfl, hS⟩ := hrel
    by_cases hlt : k < len
    · have hck := hc k hlt
      have HK : Hid (k < zs.length) := by rw [hl.out]; exact hlt
      have HJ : Hid (j < zs.length) := by rw [hl.out]; exact hj
      have g1 : Hid (bt zs j ≠ 34) := by simpa [Hid] using h1
      have g2 : Hid (bt zs j ≠ 123) := by simpa [Hid] using h2
      have g3 : Hid (bt zs j ≠ 91) := by simpa [Hid] using h3
      go_wp2_with (go_at_call 37; refine (endsValue_any _ _).mono ?_; rintro e w' ⟨rfl, rfl⟩)
      · have h4 : (!endsB (bt zs k)) = true := by assumption
        go_round
        case rel => exact ⟨k + 1, by omega, by omega, by go_num, (R_step HK.out h4).symm.trans hS.out⟩
        case measure => simp [intOf]; omega
      · have h4 : (!endsB (bt zs k)) = false := by assumption
        have h5 : ((k : Int) == (j : Int)) = true := by assumption
        go_ret
        exact ⟨ret_int (V_none HJ.out g1.out g2.out g3.out (by rw [← hS.out, R_stop HK.out h4]; simp at h5; omega)).symm, rfl⟩
      · have h4 : (!endsB (bt zs k)) = false := by assumption
        have h5 : ((k : Int) == (j : Int)) = false := by assumption
        go_ret
        have hR : R (fun c => !endsB c) zs j = k := by rw [← hS.out, R_stop HK.out h4]
        exact ⟨ret_int (by rw [V_some HJ.out g1.out g2.out g3.out (by rw [hR]; simp at h5; omega), hR]), rfl⟩
    · have HJ : Hid (j < zs.length) := by rw [hl.out]; exact hj
      have g1 : Hid (bt zs j ≠ 34) := by simpa [Hid] using h1
      have g2 : Hid (bt zs j ≠ 123) := by simpa [Hid] using h2
      have g3 : Hid (bt zs j ≠ 91) := by simpa [Hid] using h3
      go_wp2_with fail
      go_ret
      have hR : R (fun c => !endsB c) zs j = k := by rw [← hS.out, R_end (by rw [hl.out]; omega)]
      exact ⟨ret_int (by rw [V_some HJ.out g1.out g2.out g3.out (by rw [hR]; omega), hR]), rfl⟩

/-- skipValue, whatever the place. -/
theorem skipValue_any (ao : Option Addr) (b off len cap : Nat) (zs : List Int) (j : Nat) (w : World) (hao : len = 0 ∨ ao = some ⟨b, off, none⟩) (hl : Hid (zs.length = len)) (hm : len ≤ 1099511627776)
    (hc : ∀ i, i < len → w.cell? ⟨b, off + i, none⟩ = some (.int .u8 (bt zs i))) :
    Calls Trym.prog 33 #[.slice ao len cap, .int .i64 j] w fun e w' => e = .returned (.int .i64 (V zs j)) ∧ w = w' := by
  by_cases hj : j < len
  · obtain rfl : ao = some ⟨b, off, none⟩ := by rcases hao with h | h; · omega
                                                · exact h
    by_cases h1 : (bt zs j == 34) = true
    · exact skipValue_str b off len cap zs j w hl hm hj hc h1
    · by_cases h2 : bt zs j = 123 ∨ bt zs j = 91
      · exact skipValue_br b off len cap zs j w hl hm hj hc h2
      · exact skipValue_num b off len cap zs j w hl hm hj hc (by simpa using h1) (by simp; omega) (by simp; omega)
  · have h := skipValue_end ao len cap j w (by omega)
    rw [V_end (by rw [hl.out]; omega)]
    exact h

/-- ZZskipValue. -/
theorem zzSkipValue_any (ao : Option Addr) (b off len cap : Nat) (zs : List Int) (j : Nat) (w : World) (hao : len = 0 ∨ ao = some ⟨b, off, none⟩) (hl : Hid (zs.length = len)) (hm : len ≤ 1099511627776)
    (hc : ∀ i, i < len → w.cell? ⟨b, off + i, none⟩ = some (.int .u8 (bt zs i))) (r : Int) (hr : Hid (V zs j = r)) :
    Calls Trym.prog 14 #[.slice ao len cap, .int .i64 j] w fun e w' => e = .returned (.int .i64 r) ∧ w = w' := by
  go_enter Trym.func14, Trym.ntmps14
  go_wp2_with (go_at_call 33; refine (skipValue_any ao b off len cap zs j _ (by assumption) hl (by omega) (by assumption)).mono ?_; rintro e w' ⟨rfl, rfl⟩)
  go_ret
  exact ⟨ret_int hr.out, rfl⟩
end Go.Proofs.Qxb6001151aMods
