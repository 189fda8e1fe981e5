/-
  THE WALK: FnQuotedDoubleRoundTrip.
-/
import Derived.Test.Qxb6602201aModsDouble
namespace Go.Proofs.Qxb6602201aMods
open Go.RowKit Plain

set_option maxHeartbeats 400000 in
theorem zzQuoted_double (b off len cap m body : Nat) (vs rest : List Int) (w : World) (hm : vs.length + rest.length ≤ 1048576) (hv : Hid (vs.length = m)) (hbody : Hid (body = (enc fD vs).length + 2))
    (ht : Buf w.heap.size w (some ⟨b, off, none⟩) len cap (text fD 34 vs rest)) :
    Calls Trym.prog 8 #[.slice (some ⟨b, off, none⟩) len cap] w fun e w' => ∃ vo c, e = .returned (.tuple #[.slice vo m c, .int .i64 (body : Int), .bool true]) ∧ Buf w'.heap.size w' vo m c vs ∧ Below w.heap.size w w' := by
  go_enter Trym.func8, Trym.ntmps8
  go_wp2_with fail
  refine (quoted_double b off len cap vs rest w hm ht).mono ?_
  rintro e w' ⟨vo, n, c, rfl, hb, hbel⟩
  have hn : n = m := by rw [← hb.length]; exact hv.out
  subst hn
  rw [← hbody.out]
  go_wp2_with fail
  go_ret3
  exact ⟨vo, c, rfl, hb, hbel⟩

set_option maxHeartbeats 800000 in
theorem law2_early {a0 a1 : Option Addr} {len0 cap0 len1 cap1 : Nat} {w : World} (h : 1048576 < len0 ∨ 1048576 < len1 ∨ 1048576 < len0 + len1) :
    Calls Trym.prog 4 #[.slice a0 len0 cap0, .slice a1 len1 cap1] w fun e w' => e = .returned (.bool true) ∧ Below w.heap.size w w' := by
  have cs : (1048576 < len0) ∨ (¬ 1048576 < len0 ∧ 1048576 < len1) ∨ (¬ 1048576 < len0 ∧ ¬ 1048576 < len1 ∧ 1048576 < len0 + len1) := by omega
  clear h
  rcases cs with h1 | ⟨h1, h2⟩ | ⟨h1, h2, h3⟩
  all_goals
    go_enter Trym.func4, Trym.ntmps4
    go_wp2_with (go_at_call 10; go_in)
    go_ret
    exact ⟨rfl, Below.refl _ _⟩

theorem text_built2 (f : Int → List Int) (q : Int) (vs rest : List Int) : (q :: enc f vs) ++ [q] ++ rest = text f q vs rest := by simp [text]

set_option maxRecDepth 100000 in
set_option maxHeartbeats 1600000 in
theorem law2_main {a0 a1 : Option Addr} {len0 cap0 len1 cap1 : Nat} {vs rest : List Int} {w : World} (hv : Buf w.heap.size w a0 len0 cap0 vs) (hr : Buf w.heap.size w a1 len1 cap1 rest) (h : len0 + len1 ≤ 1048576) :
    Calls Trym.prog 4 #[.slice a0 len0 cap0, .slice a1 len1 cap1] w fun e w' => e = .returned (.bool true) ∧ Below w.heap.size w w' := by
  have HVL : Hid (vs.length = len0) := hv.length
  have HRL : Hid (rest.length = len1) := hr.length
  go_enter Trym.func4, Trym.ntmps4
  go_wp2_with (first
    | (go_at_call 10; go_in)
    | (at_make; refine wpList_mk0 rfl _ _ rfl Trym.underlying22 info5 _ (2 * len0 + 2 + len1) rfl rfl (by omega) (by omega) ?_; intro w1 hown1 hb1)
    | (at_builtin; refine wpList_app rfl (.tmp 40) (.tmp 41) rfl Trym.underlying22 info5 _ _ _ _ _ rfl (hown1.alloc _) _ 1 1 [34] rfl _ (buf_lit1 _ _) (by omega) w (hb1.alloc hb1.size _) ?_; intro g2 cap2 w2 hown2 hb2; simp only [Nat.zero_add, List.nil_append] at hown2))
  go_loopw [5, 6] (fun v i wr => ∃ k g n cap : Nat, k ≤ len0 ∧ n ≤ 1 + 2 * k ∧ i = .int .i64 k ∧ v = .slice (some ⟨g, 0, none⟩) n cap ∧ Own wr w.heap.size g n cap (34 :: enc fD (vs.take k)) ∧ Below w.heap.size w wr) (fun _ i _ => len0 - (intOf i).toNat)
  case atStart => exact ⟨0, _, _, _, Nat.zero_le _, by omega, rfl, rfl, hown2, hb2⟩
  case round =>
    clear hown1 hb1 hown2 hb2
    obtain ⟨k, g, n, cap, hk, hn, rfl, rfl, hown, hb⟩ := hrel
    by_cases hlt : k < len0
    · obtain ⟨b, off, e, hB, hc⟩ := hv.cells (by omega)
      subst e
      have hck : wr.cell? ⟨b, off + k, none⟩ = some (.int .u8 (bt vs k)) := (hb.cell (p := ⟨b, off + k, none⟩) hB).trans (hc k hlt)
      clear hc
      have hst := enc_step fD vs k (by rw [HVL.out]; exact hlt)
      by_cases hz : letter (bt vs k) = 0
      · have HE : Hid (34 :: enc fD (vs.take k) ++ [bt vs k] = 34 :: enc fD (vs.take (k + 1))) := by rw [hst, show fD (bt vs k) = [bt vs k] by unfold fD; rw [if_pos hz]]; simp [Hid]
        have hne : (letter (bt vs k) != 0) = false := by simp [hz]
        clear hst hz
        go_wp2_with (first
          | (go_at_call 11; refine (letter_any _ _).mono ?_; rintro e wx ⟨rfl, rfl⟩)
          | (at_builtin; refine wpList_app rfl (.tmp 60) (.tmp 65) rfl Trym.underlying22 info5 _ _ _ _ _ rfl (hown.alloc _) _ 1 1 [bt vs k] rfl _ (buf_lit1 _ _) (by omega) w (hb.alloc hb.size _) ?_; intro g6 cap6 w6 hown6 hb6))
        go_roundw
        case rel => exact ⟨k + 1, g6, n + 1, cap6, by omega, by omega, by go_num, rfl, by rw [← HE.out]; exact hown6, hb6⟩
        case measure => simp [intOf]; omega
      · have HE : Hid (34 :: enc fD (vs.take k) ++ [92, letter (bt vs k)] = 34 :: enc fD (vs.take (k + 1))) := by rw [hst, show fD (bt vs k) = [92, letter (bt vs k)] by unfold fD; rw [if_neg hz]]; simp [Hid]
        have hne : (letter (bt vs k) != 0) = true := by simpa using hz
        clear hst hz
        go_wp2_with (first
          | (go_at_call 11; refine (letter_any _ _).mono ?_; rintro e wx ⟨rfl, rfl⟩)
          | (at_builtin; refine wpList_app rfl (.tmp 56) (.tmp 58) rfl Trym.underlying22 info5 _ _ _ _ _ rfl (hown.alloc _) _ 2 2 [92, letter (bt vs k)] rfl _ (buf_lit2 _ _ _) (by omega) w (hb.alloc hb.size _) ?_; intro g6 cap6 w6 hown6 hb6))
        go_roundw
        case rel => exact ⟨k + 1, g6, n + 2, cap6, by omega, by omega, by go_num, rfl, by rw [← HE.out]; exact hown6, hb6⟩
        case measure => simp [intOf]; omega
    · have hownL : Own wr w.heap.size g n cap (34 :: enc fD vs) := by
        have e : vs.take k = vs := List.take_of_length_le (by rw [HVL.out]; omega)
        rw [e] at hown
        exact hown
      have hbodyL := hownL.1
      have HBD : Hid (n + 1 = (enc fD vs).length + 2) := by simp at hbodyL; unfold Hid; omega
      clear hown hbodyL
      go_wp2_with (first
        | (at_builtin; refine wpList_app rfl (.tmp 67) (.tmp 68) rfl Trym.underlying22 info5 _ _ _ _ _ rfl (hownL.alloc _) _ 1 1 [34] rfl _ (buf_lit1 _ _) (by omega) w (hb.alloc hb.size _) ?_; intro g7 cap7 w7 hown7 hb7)
        | (at_builtin; refine wpList_app rfl (.tmp 72) (.tmp 73) rfl Trym.underlying22 info5 _ _ _ _ _ rfl hown7 _ _ _ _ rfl _ (hr.below hb7) (by omega) w hb7 ?_; intro g8 cap8 w8 hown8 hb8))
      rw [text_built2] at hown8
      refine (zzQuoted_double g8 0 _ cap8 len0 (n + 1) vs rest w8 (by rw [HVL.out, HRL.out]; omega) HVL HBD hown8.buf).mono ?_
      rintro e w9 ⟨vo, c, rfl, hvb, hb9⟩
      have hall : Below w.heap.size w w9 := hb8.trans (hb9.mono hb8.size)
      have hv9 := (hv.below hall).mono hall.size
      clear hownL hown7 hb7 hown8 hb8 hb9 hb hv hr
      go_wp2_with fail
      refine (eq_any hvb hv9 (Nat.le_refl _) (by omega)).mono ?_
      rintro e w10 ⟨rfl, hb10⟩
      go_wp2_with fail
      go_ret
      exact ⟨rfl, hall.trans (hb10.mono hall.size)⟩

theorem law2_walk {a0 a1 : Option Addr} {len0 cap0 len1 cap1 : Nat} {vs rest : List Int} {w : World} (hv : Buf w.heap.size w a0 len0 cap0 vs) (hr : Buf w.heap.size w a1 len1 cap1 rest) :
    Calls Trym.prog 4 #[.slice a0 len0 cap0, .slice a1 len1 cap1] w fun e w' => e = .returned (.bool true) ∧ Below w.heap.size w w' := by
  by_cases h : 1048576 < len0 ∨ 1048576 < len1 ∨ 1048576 < len0 + len1
  · exact law2_early h
  · exact law2_main hv hr (by omega)

end Go.Proofs.Qxb6602201aMods
