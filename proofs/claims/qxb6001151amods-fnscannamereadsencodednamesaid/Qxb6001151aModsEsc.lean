/-
  THE WALK: zzEsc.
-/
import Derived.Test.Qxb6001151aModsCopy
namespace Go.Proofs.Qxb6001151aMods
open Go.RowKit Plain

/-- A string's bytes as numbers. -/
def sb (s : ByteArray) : List Int := s.data.toList.map fun c => (c.toNat : Int)
theorem sb_length (s : ByteArray) : (sb s).length = s.size := by simp [sb]
theorem sb_take (s : ByteArray) (k : Nat) (h : k < s.size) : (sb s).take (k + 1) = (sb s).take k ++ [(s[k].toNat : Int)] := by
  have hl : k < (sb s).length := by rw [sb_length]; exact h
  rw [List.take_succ_eq_append_getElem hl]
  congr 2
  simp only [sb, List.getElem_map, Array.getElem_toList]
  rfl

/-- The escaped text of the first k bytes. -/
def ek (s : ByteArray) (k : Nat) : List Int := esc ((sb s).take k)
theorem ek_step (s : ByteArray) (k : Nat) (h : k < s.size) : ek s (k + 1) = ek s k ++ (if (s[k].toNat : Int) = 34 ∨ (s[k].toNat : Int) = 92 then [92, (s[k].toNat : Int)] else [(s[k].toNat : Int)]) := by
  unfold ek; rw [sb_take s k h, esc_snoc]
theorem ek_all (s : ByteArray) (k : Nat) (h : s.size ≤ k) : ek s k = esc (sb s) := by
  unfold ek; rw [List.take_of_length_le (by rw [sb_length]; exact h)]
theorem ek_le (s : ByteArray) (k : Nat) : (ek s k).length ≤ 2 * k := by
  have := (esc_length ((sb s).take k)).2
  have h2 : ((sb s).take k).length ≤ k := List.length_take_le _ _
  unfold ek; omega

set_option maxHeartbeats 400000 in
theorem esc_any (s : ByteArray) (w : World) (hs : s.size ≤ 1073741824) :
    Calls Trym.prog 19 #[.string s] w fun e w' => ∃ g n cap, e = .returned (.slice (some ⟨g, 0, none⟩) n cap) ∧ Own w' w.heap.size g n cap (esc (sb s)) ∧ Below w.heap.size w w' := by
  go_enter Trym.func19, Trym.ntmps19
  go_wp2_with (at_make; refine wpList_mk0 rfl _ _ rfl Trym.underlying22 info5 _ (s.size + s.size) rfl rfl (by omega) (by omega) ?_; intro w1 hown1 hb1)
  go_loopw [3, 4] (fun v i wr => ∃ k g n cap : Nat, k ≤ s.size ∧ i = .int .i64 k ∧ v = .slice (some ⟨g, 0, none⟩) n cap ∧ Own wr w.heap.size g n cap (ek s k) ∧ Below w.heap.size w wr) (fun _ i _ => s.size - (intOf i).toNat)
  case atStart => exact ⟨0, _, 0, _, Nat.zero_le _, rfl, rfl, by simpa [ek, esc] using hown1, hb1⟩
  case round =>
    clear hown1 hb1
    obtain ⟨k, g, n, cap, hk, rfl, rfl, hown, hb⟩ := hrel
    by_cases hlt : k < s.size
    · have hn : n ≤ 2 * s.size := by have := ek_le s k; have := hown.1; omega
      have hst := ek_step s k hlt
      by_cases hq : (s[k].toNat : Int) = 34
      · have h1 : (s[k].toNat : Int) = 34 := hq
        rw [if_pos (by omega), h1] at hst
        have HS : Hid (ek s k ++ [92] ++ [(34 : Int)] = ek s (k + 1)) := by rw [hst]; simp [Hid]
        clear hst
        go_wp2_with (first
          | (at_builtin; refine wpList_app rfl (.tmp 27) (.tmp 28) rfl Trym.underlying22 info5 _ _ _ _ _ rfl (hown.alloc _) _ 1 1 [92] rfl _ (buf_lit1 _ _) (by omega) w (hb.alloc hb.size _) ?_; intro g2 cap2 w2 hown2 hb2)
          | (at_builtin; refine wpList_app rfl (.tmp 30) (.tmp 32) rfl Trym.underlying22 info5 _ _ _ _ _ rfl (hown2.alloc _) _ 1 1 [34] rfl _ (buf_lit1 _ _) (by omega) w (hb2.alloc hb2.size _) ?_; intro g3 cap3 w3 hown3 hb3))
        go_roundw
        case rel => exact ⟨k + 1, g3, n + 1 + 1, cap3, by omega, by go_num, rfl, by rw [← HS.out]; exact hown3, hb3⟩
        case measure => simp [intOf]; omega
      by_cases hq2 : (s[k].toNat : Int) = 92
      · have h1 : (s[k].toNat : Int) = 92 := hq2
        rw [if_pos (by omega), h1] at hst
        have HS : Hid (ek s k ++ [92] ++ [(92 : Int)] = ek s (k + 1)) := by rw [hst]; simp [Hid]
        clear hst
        go_wp2_with (first
          | (at_builtin; refine wpList_app rfl (.tmp 27) (.tmp 28) rfl Trym.underlying22 info5 _ _ _ _ _ rfl (hown.alloc _) _ 1 1 [92] rfl _ (buf_lit1 _ _) (by omega) w (hb.alloc hb.size _) ?_; intro g2 cap2 w2 hown2 hb2)
          | (at_builtin; refine wpList_app rfl (.tmp 30) (.tmp 32) rfl Trym.underlying22 info5 _ _ _ _ _ rfl (hown2.alloc _) _ 1 1 [92] rfl _ (buf_lit1 _ _) (by omega) w (hb2.alloc hb2.size _) ?_; intro g3 cap3 w3 hown3 hb3))
        go_roundw
        case rel => exact ⟨k + 1, g3, n + 1 + 1, cap3, by omega, by go_num, rfl, by rw [← HS.out]; exact hown3, hb3⟩
        case measure => simp [intOf]; omega
      · rw [if_neg (by omega)] at hst
        have HS : Hid (ek s k ++ [(s[k].toNat : Int)] = ek s (k + 1)) := hst.symm
        have h1 : ((s[k].toNat : Int) == 34) = false := by simpa using hq
        have h2 : ((s[k].toNat : Int) == 92) = false := by simpa using hq2
        clear hst hq hq2
        go_wp2_with (at_builtin; refine wpList_app rfl (.tmp 30) (.tmp 32) rfl Trym.underlying22 info5 _ _ _ _ _ rfl (hown.alloc _) _ 1 1 [(s[k].toNat : Int)] rfl _ (buf_lit1 _ _) (by omega) w (hb.alloc hb.size _) ?_; intro g3 cap3 w3 hown3 hb3)
        go_roundw
        case rel => exact ⟨k + 1, g3, n + 1, cap3, by omega, by go_num, rfl, by rw [← HS.out]; exact hown3, hb3⟩
        case measure => simp [intOf]; omega
    · go_wp2_with fail
      go_ret
      exact ⟨g, n, cap, rfl, by rw [← ek_all s k (by omega)]; exact hown, hb⟩
end Go.Proofs.Qxb6001151aMods
