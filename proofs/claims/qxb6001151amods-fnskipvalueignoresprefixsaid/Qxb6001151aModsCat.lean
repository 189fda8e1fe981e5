/-
  THE WALK: zzCat.
-/
import Derived.Test.Qxb6001151aModsCopy
namespace Go.Proofs.Qxb6001151aMods
open Go.RowKit Plain

set_option maxHeartbeats 400000 in
/-- zzCat. -/
theorem cat_any {B : Nat} {ao bo : Option Addr} {la ca lb cb : Nat} {xs ys : List Int} {w : World} (ha : Buf B w ao la ca xs) (hb : Buf B w bo lb cb ys) (hB : B ≤ w.heap.size) (hma : la ≤ 300000000000) (hmb : lb ≤ 300000000000) :
    Calls Trym.prog 16 #[.slice ao la ca, .slice bo lb cb] w fun e w' => ∃ g cap, e = .returned (.slice (some ⟨g, 0, none⟩) (la + lb) cap) ∧ Own w' w.heap.size g (la + lb) cap (xs ++ ys) ∧ Below w.heap.size w w' := by
  have ha' := ha.mono hB
  have hb' := hb.mono hB
  clear ha hb
  go_enter Trym.func16, Trym.ntmps16
  go_wp2_with (first
    | (at_make; refine wpList_mk0 rfl _ _ rfl Trym.underlying22 info5 _ (la + lb) rfl rfl (by omega) (by omega) ?_; intro w1 hown1 hb1)
    | (at_builtin; refine wpList_app rfl (.tmp 12) (.tmp 13) rfl Trym.underlying22 info5 _ _ _ _ _ rfl hown1 _ _ _ _ rfl _ (ha'.below hb1) (by omega) w hb1 ?_; intro g2 cap2 w2 hown2 hb2; simp only [Nat.zero_add, List.nil_append] at hown2)
    | (at_builtin; refine wpList_app rfl (.tmp 15) (.tmp 16) rfl Trym.underlying22 info5 _ _ _ _ _ rfl hown2 _ _ _ _ rfl _ (hb'.below hb2) (by omega) w hb2 ?_; intro g3 cap3 w3 hown3 hb3))
  go_ret
  exact ⟨g3, cap3, rfl, hown3, hb3⟩
end Go.Proofs.Qxb6001151aMods
