/-
  THE WALK: FnQuotedSingleRoundTrip.
-/
import Derived.Test.Qxb6602201aModsSingle
namespace Go.Proofs.Qxb6602201aMods
open Go.RowKit Plain

set_option maxHeartbeats 400000 in
theorem zzQuoted_single (b off len cap m body : Nat) (vs rest : List Int) (w : World) (hm : vs.length + rest.length ≤ 1048576) (hr : Hid (0 < rest.length → bt rest 0 ≠ 39)) (hv : Hid (vs.length = m)) (hbody : Hid (body = (enc fS vs).length + 2))
    (ht : Buf w.heap.size w (some ⟨b, off, none⟩) len cap (text fS 39 vs rest)) :
    Calls Trym.prog 8 #[.slice (some ⟨b, off, none⟩) len cap] w fun e w' => ∃ vo c, e = .returned (.tuple #[.slice vo m c, .int .i64 (body : Int), .bool true]) ∧ Buf w'.heap.size w' vo m c vs ∧ Below w.heap.size w w' := by
  go_enter Trym.func8, Trym.ntmps8
  go_wp2_with fail
  refine (quoted_single b off len cap vs rest w hm hr.out ht).mono ?_
  rintro e w' ⟨vo, n, c, rfl, hb, hbel⟩
  have hn : n = m := by rw [← hb.length]; exact hv.out
  subst hn
  rw [← hbody.out]
  go_wp2_with fail
  go_ret3
  exact ⟨vo, c, rfl, hb, hbel⟩

set_option maxHeartbeats 800000 in
theorem law1_early {a0 a1 : Option Addr} {len0 cap0 len1 cap1 : Nat} {w : World} (h : 1048576 < len0 ∨ 1048576 < len1 ∨ 1048576 < len0 + len1) :
    Calls Trym.prog 3 #[.slice a0 len0 cap0, .slice a1 len1 cap1] w fun e w' => e = .returned (.bool true) ∧ Below w.heap.size w w' := by
  have cs : (1048576 < len0) ∨ (¬ 1048576 < len0 ∧ 1048576 < len1) ∨ (¬ 1048576 < len0 ∧ ¬ 1048576 < len1 ∧ 1048576 < len0 + len1) := by omega
  clear h
  rcases cs with h1 | ⟨h1, h2⟩ | ⟨h1, h2, h3⟩
  all_goals
    go_enter Trym.func3, Trym.ntmps3
    go_wp2_with (go_at_call 7; go_in)
    go_ret
    exact ⟨rfl, Below.refl _ _⟩

set_option maxHeartbeats 400000 in
theorem law1_quote {a0 : Option Addr} {b off len0 cap0 len1 cap1 : Nat} {w : World} (h : len0 + len1 ≤ 1048576) (h1 : 0 < len1) (hc : w.cell? ⟨b, off, none⟩ = some (.int .u8 39)) :
    Calls Trym.prog 3 #[.slice a0 len0 cap0, .slice (some ⟨b, off, none⟩) len1 cap1] w fun e w' => e = .returned (.bool true) ∧ Below w.heap.size w w' := by
  have hp : (0 : Int) < (len1 : Int) := by omega
  go_enter Trym.func3, Trym.ntmps3
  go_wp2_with (go_at_call 7; go_in)
  go_ret
  exact ⟨rfl, Below.refl _ _⟩

theorem text_built (f : Int → List Int) (q : Int) (vs rest : List Int) : (q :: enc f vs) ++ [q] ++ rest = text f q vs rest := by simp [text]

set_option maxRecDepth 100000 in
set_option maxHeartbeats 1600000 in
/-- The law behind its tests: 'skip' says that the test on the first byte of rest lets by. -/
theorem law1_main {a0 a1 : Option Addr} {len0 cap0 len1 cap1 : Nat} {vs rest : List Int} {w : World} (hv : Buf w.heap.size w a0 len0 cap0 vs) (hr : Buf w.heap.size w a1 len1 cap1 rest) (h : len0 + len1 ≤ 1048576)
    (hq : 0 < len1 → ∃ b off, a1 = some ⟨b, off, none⟩ ∧ w.cell? ⟨b, off, none⟩ = some (.int .u8 (bt rest 0)) ∧ (bt rest 0 == 39) = false) :
    Calls Trym.prog 3 #[.slice a0 len0 cap0, .slice a1 len1 cap1] w fun e w' => e = .returned (.bool true) ∧ Below w.heap.size w w' := by
  have HVL : Hid (vs.length = len0) := hv.length
  have HRL : Hid (rest.length = len1) := hr.length
  have HQ : Hid (0 < rest.length → bt rest 0 ≠ 39) := by
    intro hp
    rw [HRL.out] at hp
    obtain ⟨_, _, _, _, e⟩ := hq hp
    simpa using e
  have c1 : 0 < len1 ∨ len1 = 0 := by omega
  rcases c1 with c1 | c1
  · obtain ⟨b1, off1, e1, hc1, hq1⟩ := hq c1
    subst e1
    have hp1 : (0 : Int) < (len1 : Int) := by omega
    clear hq
    go_enter Trym.func3, Trym.ntmps3
    go_wp2_with (first
      | (go_at_call 7; go_in)
      | (at_make; refine wpList_mk0 rfl _ _ rfl Trym.underlying22 info5 _ (2 * len0 + 2 + len1) rfl rfl (by omega) (by omega) ?_; intro w1 hown1 hb1)
      | (at_builtin; refine wpList_app rfl (.tmp 48) (.tmp 49) rfl Trym.underlying22 info5 _ _ _ _ _ rfl (hown1.alloc _) _ 1 1 [39] rfl _ (buf_lit1 _ _) (by omega) w (hb1.alloc hb1.size _) ?_; intro g2 cap2 w2 hown2 hb2; simp only [Nat.zero_add, List.nil_append] at hown2))
    clear hc1
    go_loopw [5, 6] (fun v i wr => ∃ k g n cap : Nat, k ≤ len0 ∧ n ≤ 1 + 2 * k ∧ i = .int .i64 k ∧ v = .slice (some ⟨g, 0, none⟩) n cap ∧ Own wr w.heap.size g n cap (39 :: enc fS (vs.take k)) ∧ Below w.heap.size w wr) (fun _ i _ => len0 - (intOf i).toNat)
    case atStart => exact ⟨0, _, _, _, Nat.zero_le _, by omega, rfl, rfl, hown2, hb2⟩
    case round =>
      clear hown1 hb1 hown2 hb2
      obtain ⟨k, g, n, cap, hk, hn, rfl, rfl, hown, hb⟩ := hrel
      by_cases hlt : k < len0
      · obtain ⟨b, off, e, hB, hc⟩ := hv.cells (by omega)
        subst e
        have HC : Hid (∀ wx, Below w.heap.size w wx → wx.cell? ⟨b, off + k, none⟩ = some (.int .u8 (bt vs k))) := fun wx hx => (hx.cell (p := ⟨b, off + k, none⟩) hB).trans (hc k hlt)
        clear hc
        have hst := enc_step fS vs k (by rw [HVL.out]; exact hlt)
        by_cases h39 : bt vs k = 39
        · have HE : Hid (39 :: enc fS (vs.take k) ++ [39] ++ [39] = 39 :: enc fS (vs.take (k + 1))) := by rw [hst, show fS (bt vs k) = [39, 39] by unfold fS; rw [if_pos h39]]; simp [Hid]
          have hck : wr.cell? ⟨b, off + k, none⟩ = some (.int .u8 39) := by rw [HC.out wr hb, h39]
          have HK : Hid (∀ wx, Below w.heap.size w wx → wx.cell? ⟨b, off + k, none⟩ = some (.int .u8 39)) := fun wx hx => by rw [HC.out wx hx, h39]
          clear hst h39
          go_wp2_with (first
            | (at_builtin; refine wpList_app rfl (.tmp 62) (.tmp 63) rfl Trym.underlying22 info5 _ _ _ _ _ rfl (hown.alloc _) _ 1 1 [39] rfl _ (buf_lit1 _ _) (by omega) w (hb.alloc hb.size _) ?_; intro g5 cap5 w5 hown5 hb5; have hck5 := HK.out w5 hb5)
            | (at_builtin; refine wpList_app rfl (.tmp 65) (.tmp 70) rfl Trym.underlying22 info5 _ _ _ _ _ rfl (hown5.alloc _) _ 1 1 [39] rfl _ (buf_lit1 _ _) (by omega) w (hb5.alloc hb5.size _) ?_; intro g6 cap6 w6 hown6 hb6))
          go_roundw
          case rel => exact ⟨k + 1, g6, n + 1 + 1, cap6, by omega, by omega, by go_num, rfl, by rw [← HE.out]; exact hown6, hb6⟩
          case measure => simp [intOf]; omega
        · have HE : Hid (39 :: enc fS (vs.take k) ++ [bt vs k] = 39 :: enc fS (vs.take (k + 1))) := by rw [hst, show fS (bt vs k) = [bt vs k] by unfold fS; rw [if_neg h39]]; simp [Hid]
          have hck := HC.out wr hb
          have hq : (bt vs k == 39) = false := by simpa using h39
          clear hst h39
          go_wp2_with (at_builtin; refine wpList_app rfl (.tmp 65) (.tmp 70) rfl Trym.underlying22 info5 _ _ _ _ _ rfl (hown.alloc _) _ 1 1 [bt vs k] rfl _ (buf_lit1 _ _) (by omega) w (hb.alloc hb.size _) ?_; intro g6 cap6 w6 hown6 hb6)
          go_roundw
          case rel => exact ⟨k + 1, g6, n + 1, cap6, by omega, by omega, by go_num, rfl, by rw [← HE.out]; exact hown6, hb6⟩
          case measure => simp [intOf]; omega
      · have hownL : Own wr w.heap.size g n cap (39 :: enc fS vs) := by
          have e : vs.take k = vs := List.take_of_length_le (by rw [HVL.out]; omega)
          rw [e] at hown
          exact hown
        have hbodyL := hownL.1
        have HBD : Hid (n + 1 = (enc fS vs).length + 2) := by simp at hbodyL; unfold Hid; omega
        clear hown hbodyL
        go_wp2_with (first
          | (at_builtin; refine wpList_app rfl (.tmp 72) (.tmp 73) rfl Trym.underlying22 info5 _ _ _ _ _ rfl (hownL.alloc _) _ 1 1 [39] rfl _ (buf_lit1 _ _) (by omega) w (hb.alloc hb.size _) ?_; intro g7 cap7 w7 hown7 hb7)
          | (at_builtin; refine wpList_app rfl (.tmp 77) (.tmp 78) rfl Trym.underlying22 info5 _ _ _ _ _ rfl hown7 _ _ _ _ rfl _ (hr.below hb7) (by omega) w hb7 ?_; intro g8 cap8 w8 hown8 hb8))
        rw [text_built] at hown8
        try simp only [Nat.add_zero] at hown8
        refine (zzQuoted_single g8 0 _ cap8 len0 (n + 1) vs rest w8 (by rw [HVL.out, HRL.out]; omega) HQ HVL HBD hown8.buf).mono ?_
        rintro e w9 ⟨vo, c, rfl, hvb, hb9⟩
        have hall : Below w.heap.size w w9 := hb8.trans (hb9.mono hb8.size)
        have hv9 := (hv.below hall).mono hall.size
        clear hownL hown7 hb7 hown8 hb8 hb9 hb hv hr
        go_wp2_with fail
        refine (eq_any hvb hv9 (Nat.le_refl _) (by omega)).mono ?_
        rintro e w10 ⟨rfl, hb10⟩
        go_wp2_with fail
        go_ret
        exact ⟨rfl, hall.trans (hb10.mono hall.size)⟩
  · subst c1
    clear hq
    go_enter Trym.func3, Trym.ntmps3
    go_wp2_with (first
      | (go_at_call 7; go_in)
      | (at_make; refine wpList_mk0 rfl _ _ rfl Trym.underlying22 info5 _ (2 * len0 + 2) rfl rfl (by omega) (by omega) ?_; intro w1 hown1 hb1)
      | (at_builtin; refine wpList_app rfl (.tmp 48) (.tmp 49) rfl Trym.underlying22 info5 _ _ _ _ _ rfl (hown1.alloc _) _ 1 1 [39] rfl _ (buf_lit1 _ _) (by omega) w (hb1.alloc hb1.size _) ?_; intro g2 cap2 w2 hown2 hb2; simp only [Nat.zero_add, List.nil_append] at hown2))
    go_loopw [5, 6] (fun v i wr => ∃ k g n cap : Nat, k ≤ len0 ∧ n ≤ 1 + 2 * k ∧ i = .int .i64 k ∧ v = .slice (some ⟨g, 0, none⟩) n cap ∧ Own wr w.heap.size g n cap (39 :: enc fS (vs.take k)) ∧ Below w.heap.size w wr) (fun _ i _ => len0 - (intOf i).toNat)
    case atStart => exact ⟨0, _, _, _, Nat.zero_le _, by omega, rfl, rfl, hown2, hb2⟩
    case round =>
      clear hown1 hb1 hown2 hb2
      obtain ⟨k, g, n, cap, hk, hn, rfl, rfl, hown, hb⟩ := hrel
      by_cases hlt : k < len0
      · obtain ⟨b, off, e, hB, hc⟩ := hv.cells (by omega)
        subst e
        have HC : Hid (∀ wx, Below w.heap.size w wx → wx.cell? ⟨b, off + k, none⟩ = some (.int .u8 (bt vs k))) := fun wx hx => (hx.cell (p := ⟨b, off + k, none⟩) hB).trans (hc k hlt)
        clear hc
        have hst := enc_step fS vs k (by rw [HVL.out]; exact hlt)
        by_cases h39 : bt vs k = 39
        · have HE : Hid (39 :: enc fS (vs.take k) ++ [39] ++ [39] = 39 :: enc fS (vs.take (k + 1))) := by rw [hst, show fS (bt vs k) = [39, 39] by unfold fS; rw [if_pos h39]]; simp [Hid]
          have hck : wr.cell? ⟨b, off + k, none⟩ = some (.int .u8 39) := by rw [HC.out wr hb, h39]
          have HK : Hid (∀ wx, Below w.heap.size w wx → wx.cell? ⟨b, off + k, none⟩ = some (.int .u8 39)) := fun wx hx => by rw [HC.out wx hx, h39]
          clear hst h39
          go_wp2_with (first
            | (at_builtin; refine wpList_app rfl (.tmp 62) (.tmp 63) rfl Trym.underlying22 info5 _ _ _ _ _ rfl (hown.alloc _) _ 1 1 [39] rfl _ (buf_lit1 _ _) (by omega) w (hb.alloc hb.size _) ?_; intro g5 cap5 w5 hown5 hb5; have hck5 := HK.out w5 hb5)
            | (at_builtin; refine wpList_app rfl (.tmp 65) (.tmp 70) rfl Trym.underlying22 info5 _ _ _ _ _ rfl (hown5.alloc _) _ 1 1 [39] rfl _ (buf_lit1 _ _) (by omega) w (hb5.alloc hb5.size _) ?_; intro g6 cap6 w6 hown6 hb6))
          go_roundw
          case rel => exact ⟨k + 1, g6, n + 1 + 1, cap6, by omega, by omega, by go_num, rfl, by rw [← HE.out]; exact hown6, hb6⟩
          case measure => simp [intOf]; omega
        · have HE : Hid (39 :: enc fS (vs.take k) ++ [bt vs k] = 39 :: enc fS (vs.take (k + 1))) := by rw [hst, show fS (bt vs k) = [bt vs k] by unfold fS; rw [if_neg h39]]; simp [Hid]
          have hck := HC.out wr hb
          have hq : (bt vs k == 39) = false := by simpa using h39
          clear hst h39
          go_wp2_with (at_builtin; refine wpList_app rfl (.tmp 65) (.tmp 70) rfl Trym.underlying22 info5 _ _ _ _ _ rfl (hown.alloc _) _ 1 1 [bt vs k] rfl _ (buf_lit1 _ _) (by omega) w (hb.alloc hb.size _) ?_; intro g6 cap6 w6 hown6 hb6)
          go_roundw
          case rel => exact ⟨k + 1, g6, n + 1, cap6, by omega, by omega, by go_num, rfl, by rw [← HE.out]; exact hown6, hb6⟩
          case measure => simp [intOf]; omega
      · have hownL : Own wr w.heap.size g n cap (39 :: enc fS vs) := by
          have e : vs.take k = vs := List.take_of_length_le (by rw [HVL.out]; omega)
          rw [e] at hown
          exact hown
        have hbodyL := hownL.1
        have HBD : Hid (n + 1 = (enc fS vs).length + 2) := by simp at hbodyL; unfold Hid; omega
        clear hown hbodyL
        go_wp2_with (first
          | (at_builtin; refine wpList_app rfl (.tmp 72) (.tmp 73) rfl Trym.underlying22 info5 _ _ _ _ _ rfl (hownL.alloc _) _ 1 1 [39] rfl _ (buf_lit1 _ _) (by omega) w (hb.alloc hb.size _) ?_; intro g7 cap7 w7 hown7 hb7)
          | (at_builtin; refine wpList_app rfl (.tmp 77) (.tmp 78) rfl Trym.underlying22 info5 _ _ _ _ _ rfl hown7 _ _ _ _ rfl _ (hr.below hb7) (by omega) w hb7 ?_; intro g8 cap8 w8 hown8 hb8))
        rw [text_built] at hown8
        try simp only [Nat.add_zero] at hown8
        refine (zzQuoted_single g8 0 _ cap8 len0 (n + 1) vs rest w8 (by rw [HVL.out, HRL.out]; omega) HQ HVL HBD hown8.buf).mono ?_
        rintro e w9 ⟨vo, c, rfl, hvb, hb9⟩
        have hall : Below w.heap.size w w9 := hb8.trans (hb9.mono hb8.size)
        have hv9 := (hv.below hall).mono hall.size
        clear hownL hown7 hb7 hown8 hb8 hb9 hb hv hr
        go_wp2_with fail
        refine (eq_any hvb hv9 (Nat.le_refl _) (by omega)).mono ?_
        rintro e w10 ⟨rfl, hb10⟩
        go_wp2_with fail
        go_ret
        exact ⟨rfl, hall.trans (hb10.mono hall.size)⟩
theorem law1_walk {a0 a1 : Option Addr} {len0 cap0 len1 cap1 : Nat} {vs rest : List Int} {w : World} (hv : Buf w.heap.size w a0 len0 cap0 vs) (hr : Buf w.heap.size w a1 len1 cap1 rest) :
    Calls Trym.prog 3 #[.slice a0 len0 cap0, .slice a1 len1 cap1] w fun e w' => e = .returned (.bool true) ∧ Below w.heap.size w w' := by
  by_cases h : 1048576 < len0 ∨ 1048576 < len1 ∨ 1048576 < len0 + len1
  · exact law1_early h
  · by_cases h1 : 0 < len1
    · obtain ⟨b, off, rfl, hB, hc⟩ := hr.cells h1
      have hc0 := hc 0 h1
      rw [Nat.add_zero] at hc0
      by_cases hq : bt rest 0 = 39
      · rw [hq] at hc0
        exact law1_quote (by omega) h1 hc0
      · exact law1_main hv hr (by omega) (fun _ => ⟨b, off, rfl, hc0, by simpa using hq⟩)
    · exact law1_main hv hr (by omega) (fun hp => absurd hp h1)

end Go.Proofs.Qxb6602201aMods
