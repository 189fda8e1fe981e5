/-
  THE WALKS: skipString, endsValue, isSpace, skipSpace.
-/
import Derived.Test.Qxb6001151aModsRows
import Derived.WalkKit
import Derived.WalkSpells
import Derived.WalkLawsBesides
import Derived.Test.Qxb6001151aModsPlain2
namespace Go.Proofs.Qxb6001151aMods
open Go.RowKit Plain

theorem ret_int {k : IntKind} {a b : Int} (h : a = b) : Ending.returned (.int k a) = .returned (.int k b) := by rw [h]
theorem ret_bool {a b : Bool} (h : a = b) : Ending.returned (.bool a) = .returned (.bool b) := by rw [h]

set_option maxHeartbeats 400000 in
theorem skipString_any (b off len cap : Nat) (zs : List Int) (j : Nat) (w : World) (hl : Hid (zs.length = len)) (hm : len ≤ 1099511627776) (hj : j ≤ 1099511627776)
    (hc : ∀ i, i < len → w.cell? ⟨b, off + i, none⟩ = some (.int .u8 (bt zs i))) :
    Calls Trym.prog 36 #[.slice (some ⟨b, off, none⟩) len cap, .int .i64 j] w fun e w' => e = .returned (.int .i64 (S zs (j + 1))) ∧ w = w' := by
  go_enter Trym.func36, Trym.ntmps36
  go_wp2
  go_loop [1] (fun i => ∃ k : Nat, k ≤ 1099511627776 + 2 ∧ i = .int .i64 k ∧ Hid (S zs k = S zs (j + 1))) (fun i => len + 2 - (intOf i).toNat)
  case atStart => exact ⟨j + 1, by omega, by go_num, rfl⟩
  case round =>
    obtain ⟨k, hk, rfl, hS⟩ := hrel
    by_cases hlt : k < len
    · have hck := hc k hlt
      go_wp2
      · have h1 : (bt zs k == 34) = true := by assumption
        go_ret
        exact ⟨ret_int (by rw [← hS.out, S_quote (by rw [hl.out]; omega) (by simpa using h1)]), rfl⟩
      · have h1 : (bt zs k == 34) = false := by assumption
        have h2 : (bt zs k == 92) = true := by assumption
        go_round
        case rel => exact ⟨k + 2, by omega, by go_num, (S_esc (by rw [hl.out]; omega) (by simpa using h2)).symm.trans hS.out⟩
        case measure => simp [intOf]; omega
      · have h1 : (bt zs k == 34) = false := by assumption
        have h2 : (bt zs k == 92) = false := by assumption
        go_round
        case rel => exact ⟨k + 1, by omega, by go_num, (S_other (by rw [hl.out]; omega) (by simpa using h1) (by simpa using h2)).symm.trans hS.out⟩
        case measure => simp [intOf]; omega
    · go_wp2
      go_ret
      exact ⟨ret_int (by rw [← hS.out, S_end (by rw [hl.out]; omega)]), rfl⟩

set_option maxHeartbeats 400000 in
theorem endsValue_any (c : Int) (w : World) : Calls Trym.prog 37 #[.int .u8 c] w fun e w' => e = .returned (.bool (endsB c)) ∧ w = w' := by
  go_enter Trym.func37, Trym.ntmps37
  go_wp2
  all_goals
    go_ret
    exact ⟨ret_bool (by simp_all [endsB]), rfl⟩

set_option maxHeartbeats 400000 in
theorem isSpace_any (c : Int) (w : World) : Calls Trym.prog 41 #[.int .u8 c] w fun e w' => e = .returned (.bool (spcB c)) ∧ w = w' := by
  go_enter Trym.func41, Trym.ntmps41
  go_wp2
  all_goals
    go_ret
    exact ⟨ret_bool (by rw [Bool.eq_iff_iff]; simp [spcB, or_assoc] <;> omega), rfl⟩

set_option maxHeartbeats 400000 in
theorem skipSpace_any (b off len cap : Nat) (zs : List Int) (j : Nat) (w : World) (hl : Hid (zs.length = len)) (hm : len ≤ 1099511627776) (hj : j ≤ len)
    (hc : ∀ i, i < len → w.cell? ⟨b, off + i, none⟩ = some (.int .u8 (bt zs i))) :
    Calls Trym.prog 38 #[.slice (some ⟨b, off, none⟩) len cap, .int .i64 j] w fun e w' => e = .returned (.int .i64 (R spcB zs j)) ∧ w = w' := by
  go_enter Trym.func38, Trym.ntmps38
  go_wp2
  go_loop [1] (fun i => ∃ k : Nat, k ≤ len ∧ i = .int .i64 k ∧ Hid (R spcB zs k = R spcB zs j)) (fun i => len - (intOf i).toNat)
  case atStart => exact ⟨j, by omega, by go_num, rfl⟩
  case round =>
    obtain ⟨k, hk, rfl, hS⟩ := hrel
    by_cases hlt : k < len
    · have hck := hc k hlt
      go_wp2_with (go_at_call 41; refine (isSpace_any _ _).mono ?_; rintro e w' ⟨rfl, rfl⟩)
      · have h1 : spcB (bt zs k) = true := by assumption
        go_round
        case rel => exact ⟨k + 1, by omega, by go_num, (R_step (by rw [hl.out]; omega) h1).symm.trans hS.out⟩
        case measure => simp [intOf]; omega
      · have h1 : spcB (bt zs k) = false := by assumption
        go_ret
        exact ⟨ret_int (by rw [← hS.out, R_stop (by rw [hl.out]; omega) h1]), rfl⟩
    · go_wp2_with fail
      go_ret
      exact ⟨ret_int (by rw [← hS.out, R_end (by rw [hl.out]; omega)]), rfl⟩
end Go.Proofs.Qxb6001151aMods
