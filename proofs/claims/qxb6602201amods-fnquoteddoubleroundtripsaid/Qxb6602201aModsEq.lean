/-
  THE WALK: bytesEq.
-/
import Derived.Test.Qxb6602201aModsRows
import Derived.Test.Qxb6602201aModsMem2
import Derived.Deep.QuietTactic
import Derived.BigQuiet
namespace Go.Proofs.Qxb6602201aMods
open Go.RowKit Plain

theorem ret_int {k : IntKind} {a b : Int} (h : a = b) : Ending.returned (.int k a) = .returned (.int k b) := by rw [h]
theorem ret_bool {a b : Bool} (h : a = b) : Ending.returned (.bool a) = .returned (.bool b) := by rw [h]
theorem info5 : (Trym.prog.info? 5).map (fun i => (i.zero, i.size, i.bytes)) = some (some (.int .u8 0), 1, 1) := by kernel_rfl

set_option maxHeartbeats 400000 in
theorem eq_pos (b off b' off' len cap cap' : Nat) (zs : List Int) (w : World) (hm : len ≤ 1099511627776) (hB : b < w.heap.size) (hB' : b' < w.heap.size)
    (hc : Hid (∀ i, i < len → w.cell? ⟨b, off + i, none⟩ = some (.int .u8 (bt zs i)))) (hc' : Hid (∀ i, i < len → w.cell? ⟨b', off' + i, none⟩ = some (.int .u8 (bt zs i)))) :
    Calls Trym.prog 9 #[.slice (some ⟨b, off, none⟩) len cap, .slice (some ⟨b', off', none⟩) len cap'] w fun e w' => e = .returned (.bool true) ∧ Below w.heap.size w w' := by
  go_enter Trym.func9, Trym.ntmps9
  go_wp2
  go_loopw [5] (fun i wr => ∃ k : Nat, k ≤ len ∧ i = .int .i64 k ∧ Below w.heap.size w wr) (fun i _ => len - (intOf i).toNat)
  case atStart => exact ⟨0, Nat.zero_le _, rfl, Below.refl _ _⟩
  case round =>
    obtain ⟨k, hk, rfl, hb⟩ := hrel
    by_cases hlt : k < len
    · have h1 : wr.cell? ⟨b, off + k, none⟩ = some (.int .u8 (bt zs k)) := (hb.cell (p := ⟨b, off + k, none⟩) hB).trans (hc.out k hlt)
      have h2 : wr.cell? ⟨b', off' + k, none⟩ = some (.int .u8 (bt zs k)) := (hb.cell (p := ⟨b', off' + k, none⟩) hB').trans (hc'.out k hlt)
      have hki : (k : Int) < (len : Int) := by omega
      go_wp2
      go_quiet (fail)
      go_wp2
      go_roundw
      case rel => exact ⟨k + 1, by omega, by go_num, below_drewN hb _⟩
      case measure => simp [intOf]; omega
    · go_wp2
      go_ret
      exact ⟨rfl, hb⟩

set_option maxHeartbeats 400000 in
theorem eq_zero (a a' : Option Addr) (cap cap' : Nat) (w : World) : Calls Trym.prog 9 #[.slice a 0 cap, .slice a' 0 cap'] w fun e w' => e = .returned (.bool true) ∧ Below w.heap.size w w' := by
  go_enter Trym.func9, Trym.ntmps9
  go_wp2
  refine wp_loop_rounds 1 ?_
  rw [rounds_succ]
  go_wp2
  go_ret
  exact ⟨rfl, Below.refl _ _⟩

/-- bytesEq of two slices that read alike. -/
theorem eq_any {B : Nat} {a a' : Option Addr} {len cap cap' : Nat} {zs : List Int} {w : World} (h : Buf B w a len cap zs) (h' : Buf B w a' len cap' zs) (hB : B ≤ w.heap.size) (hm : len ≤ 1099511627776) :
    Calls Trym.prog 9 #[.slice a len cap, .slice a' len cap'] w fun e w' => e = .returned (.bool true) ∧ Below w.heap.size w w' := by
  by_cases h0 : len = 0
  · subst h0
    exact eq_zero a a' cap cap' w
  · obtain ⟨b, off, rfl, hb, hc⟩ := h.cells (by omega)
    obtain ⟨b', off', rfl, hb', hc'⟩ := h'.cells (by omega)
    exact eq_pos b off b' off' len cap cap' zs w hm (by omega) (by omega) hc hc'

end Go.Proofs.Qxb6602201aMods
