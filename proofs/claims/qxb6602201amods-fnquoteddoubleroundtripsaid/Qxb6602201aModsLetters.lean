/-
  THE WALKS: escapeLetter, quotedEscape.
-/
import Derived.Test.Qxb6602201aModsEq
namespace Go.Proofs.Qxb6602201aMods
open Go.RowKit Plain

set_option maxHeartbeats 800000 in
theorem letter_any (c : Int) (w : World) : Calls Trym.prog 11 #[.int .u8 c] w fun e w' => e = .returned (.int .u8 (letter c)) ∧ w = w' := by
  go_enter Trym.func11, Trym.ntmps11
  go_wp2
  all_goals
    go_ret
    exact ⟨ret_int (by simp_all [letter]), rfl⟩

theorem ret2 {a b : Int} (h : a = b) : Ending.returned (.tuple #[.int .u8 a, .bool true]) = .returned (.tuple #[.int .u8 b, .bool true]) := by rw [h]

set_option maxHeartbeats 800000 in
theorem unletter_any (c d : Int) (h : Hid (unletter c = some d)) (w : World) : Calls Trym.prog 23 #[.int .u8 c] w fun e w' => e = .returned (.tuple #[.int .u8 d, .bool true]) ∧ w = w' := by
  go_enter Trym.func23, Trym.ntmps23
  go_wp2
  all_goals
    first
    | (go_ret2; exact ⟨ret2 (by have h' : unletter c = some d := h.out; clear h; simp_all [unletter]), rfl⟩)
    | (exfalso; have h' : unletter c = some d := h.out; clear h; simp_all [unletter])
end Go.Proofs.Qxb6602201aMods
