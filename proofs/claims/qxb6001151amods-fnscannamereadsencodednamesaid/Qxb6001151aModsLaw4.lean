/-
  THE WALK: FnScanNameReadsEncodedName.
-/
import Derived.Test.Qxb6001151aModsLaw5
import Derived.Test.Qxb6001151aModsEsc
namespace Go.Proofs.Qxb6001151aMods
open Go.RowKit Plain

set_option maxHeartbeats 400000 in
theorem space_any (k : Nat) (i : Int) (hi : i = (k : Int)) (w : World) (hk : k ≤ 1099511627776) : Calls Trym.prog 21 #[.int .i64 i] w fun e w' => e = .returned (.int .u8 (spc k)) ∧ w = w' := by
  subst hi
  have h4 : k % 4 = 0 ∨ k % 4 = 1 ∨ k % 4 = 2 ∨ k % 4 = 3 := by omega
  have H4 : Hid (k % 4 = 0 ∨ k % 4 = 1 ∨ k % 4 = 2 ∨ k % 4 = 3) := h4
  clear h4
  rcases H4.out with h | h | h | h
  · have e : (((k : Int) % 4) == 0) = true := by simp; omega
    have HE : Hid (spc k = 32) := by unfold Hid spc; rw [if_pos h]
    clear h
    go_enter Trym.func21, Trym.ntmps21
    go_wp2
    go_ret
    exact ⟨ret_int HE.out.symm, rfl⟩
  · have e0 : (((k : Int) % 4) == 0) = false := by simp; omega
    have e : (((k : Int) % 4) == 1) = true := by simp; omega
    have HE : Hid (spc k = 9) := by unfold Hid spc; rw [if_neg (by omega), if_pos h]
    clear h
    go_enter Trym.func21, Trym.ntmps21
    go_wp2
    go_ret
    exact ⟨ret_int HE.out.symm, rfl⟩
  · have e0 : (((k : Int) % 4) == 0) = false := by simp; omega
    have e1 : (((k : Int) % 4) == 1) = false := by simp; omega
    have e : (((k : Int) % 4) == 2) = true := by simp; omega
    have HE : Hid (spc k = 13) := by unfold Hid spc; rw [if_neg (by omega), if_neg (by omega), if_pos h]
    clear h
    go_enter Trym.func21, Trym.ntmps21
    go_wp2
    go_ret
    exact ⟨ret_int HE.out.symm, rfl⟩
  · have e0 : (((k : Int) % 4) == 0) = false := by simp; omega
    have e1 : (((k : Int) % 4) == 1) = false := by simp; omega
    have e2 : (((k : Int) % 4) == 2) = false := by simp; omega
    have HE : Hid (spc k = 10) := by unfold Hid spc; rw [if_neg (by omega), if_neg (by omega), if_neg (by omega)]
    clear h
    go_enter Trym.func21, Trym.ntmps21
    go_wp2
    go_ret
    exact ⟨ret_int HE.out.symm, rfl⟩

set_option maxHeartbeats 800000 in
theorem law4_early {a0 a3 : Option Addr} {len0 cap0 len3 cap3 : Nat} {s : ByteArray} {d : Int} {w : World} (hd1 : -9223372036854775808 ≤ d) (hd2 : d ≤ 9223372036854775807)
    (h : 1048576 < len0 ∨ 1048576 < s.size ∨ 1048576 < len3 ∨ 1048576 < len0 + s.size + len3 ∨ d < 0 ∨ 64 < d) :
    Calls Trym.prog 6 #[.slice a0 len0 cap0, .string s, .int .i64 d, .slice a3 len3 cap3] w fun e w' => e = .returned (.bool true) ∧ Below w.heap.size w w' := by
  have cs : (1048576 < len0) ∨ (¬ 1048576 < len0 ∧ 1048576 < s.size) ∨ (¬ 1048576 < len0 ∧ ¬ 1048576 < s.size ∧ 1048576 < len0 + s.size) ∨
      (¬ 1048576 < len0 ∧ ¬ 1048576 < s.size ∧ ¬ 1048576 < len0 + s.size ∧ 1048576 < len3) ∨ (¬ 1048576 < len0 ∧ ¬ 1048576 < s.size ∧ ¬ 1048576 < len0 + s.size ∧ ¬ 1048576 < len3 ∧ 1048576 < len0 + s.size + len3) ∨
      (¬ 1048576 < len0 ∧ ¬ 1048576 < s.size ∧ ¬ 1048576 < len0 + s.size ∧ ¬ 1048576 < len3 ∧ ¬ 1048576 < len0 + s.size + len3 ∧ d < 0) ∨
      (¬ 1048576 < len0 ∧ ¬ 1048576 < s.size ∧ ¬ 1048576 < len0 + s.size ∧ ¬ 1048576 < len3 ∧ ¬ 1048576 < len0 + s.size + len3 ∧ ¬ d < 0 ∧ 64 < d) := by omega
  clear h
  rcases cs with h1 | ⟨h1, h2⟩ | ⟨h1, h2, h3⟩ | ⟨h1, h2, h3, h4⟩ | ⟨h1, h2, h3, h4, h5⟩ | ⟨h1, h2, h3, h4, h5, h6⟩ | ⟨h1, h2, h3, h4, h5, h6, h7⟩
  all_goals
    go_enter Trym.func6, Trym.ntmps6
    go_wp2_with (go_at_call 20; go_in)
    go_ret
    exact ⟨rfl, Below.refl _ _⟩

theorem mid_esc (xs es ns cs ys : List Int) (n : Nat) (hx : xs.length = n) : ((xs ++ [34] ++ es ++ [34] ++ ns ++ cs ++ ys).drop (n + 1)).take es.length = es := by
  have e : xs ++ [34] ++ es ++ [34] ++ ns ++ cs ++ ys = (xs ++ [34]) ++ (es ++ ([34] ++ ns ++ cs ++ ys)) := by simp
  rw [e, List.drop_left' (by simp [hx]), List.take_left' rfl]

set_option maxHeartbeats 1600000 in
theorem law4_main {a0 a3 : Option Addr} {len0 cap0 len3 cap3 : Nat} {xs ys : List Int} {s : ByteArray} {d : Nat} {w : World} (hp : Buf w.heap.size w a0 len0 cap0 xs) (ht : Buf w.heap.size w a3 len3 cap3 ys)
    (h : len0 + s.size + len3 ≤ 1048576) (hd : d ≤ 64) :
    Calls Trym.prog 6 #[.slice a0 len0 cap0, .string s, .int .i64 d, .slice a3 len3 cap3] w fun e w' => e = .returned (.bool true) ∧ Below w.heap.size w w' := by
  go_enter Trym.func6, Trym.ntmps6
  go_wp2_with (go_at_call 20; go_in)
  refine (copy_any hp (by omega)).mono ?_
  rintro e w1 ⟨po, rfl, hp1, hb1⟩
  have ht1 := (ht.below hb1).mono hb1.size
  clear hp ht
  go_wp2_with fail
  refine (copy_any ht1 (by omega)).mono ?_
  rintro e w2 ⟨to, rfl, ht2, hb2'⟩
  have hb2 := hb1.trans (hb2'.mono hb1.size)
  have hp2 := (hp1.below hb2').mono hb2'.size
  clear hp1 ht1 hb1 hb2'
  go_wp2_with fail
  refine (esc_any s _ (by omega)).mono ?_
  rintro e w3 ⟨ge, ne, ce, rfl, hesc, hb3'⟩
  have hb3 := hb2.trans (hb3'.mono hb2.size)
  have hp3 := (hp2.below hb3').mono hb3'.size
  have ht3 := (ht2.below hb3').mono hb3'.size
  have he3 := hesc.buf
  have hne : ne ≤ 2097152 := by
    have a := (esc_length (sb s)).2
    rw [sb_length] at a
    have := hesc.1
    omega
  have HEL : Hid ((esc (sb s)).length = ne) := hesc.1
  have HXL : Hid (xs.length = len0) := hp2.length
  clear hp2 ht2 hb2 hb3' hesc
  go_wp2_with (first
    | (at_make; refine wpList_mk0 rfl _ _ rfl Trym.underlying22 info5 _ (len0 + ne + d + 3 + len3) rfl rfl (by omega) (by omega) ?_; intro w4 hown4 hb4)
    | (at_builtin; refine wpList_app rfl (.tmp 62) (.tmp 63) rfl Trym.underlying22 info5 _ _ _ _ _ rfl hown4 _ _ _ _ rfl _ (hp3.below hb4) (by omega) w3 hb4 ?_; intro g5 cap5 w5 hown5 hb5; simp only [Nat.zero_add, List.nil_append] at hown5)
    | (at_builtin; refine wpList_app rfl (.tmp 65) (.tmp 66) rfl Trym.underlying22 info5 _ _ _ _ _ rfl (hown5.alloc _) _ 1 1 [34] rfl _ (buf_lit1 _ _) (by omega) w3 (hb5.alloc hb5.size _) ?_; intro g6 cap6 w6 hown6 hb6)
    | (at_builtin; refine wpList_app rfl (.tmp 68) (.tmp 69) rfl Trym.underlying22 info5 _ _ _ _ _ rfl hown6 _ _ _ _ rfl _ (he3.below hb6) (by omega) w3 hb6 ?_; intro g7 cap7 w7 hown7 hb7)
    | (at_builtin; refine wpList_app rfl (.tmp 71) (.tmp 72) rfl Trym.underlying22 info5 _ _ _ _ _ rfl (hown7.alloc _) _ 1 1 [34] rfl _ (buf_lit1 _ _) (by omega) w3 (hb7.alloc hb7.size _) ?_; intro g8 cap8 w8 hown8 hb8))
  go_loopw [10, 11] (fun v i wr => ∃ k g n cap : Nat, k ≤ d ∧ n ≤ 5000000 + k ∧ i = .int .i64 k ∧ v = .slice (some ⟨g, 0, none⟩) n cap ∧ Own wr w3.heap.size g n cap (xs ++ [34] ++ esc (sb s) ++ [34] ++ sp k) ∧ Below w3.heap.size w3 wr) (fun _ i _ => d - (intOf i).toNat)
  case atStart => exact ⟨0, _, _, _, Nat.zero_le _, by omega, rfl, rfl, by simpa [sp] using hown8, hb8⟩
  case round =>
    clear hown4 hb4 hown5 hb5 hown6 hb6 hown7 hb7 hown8 hb8
    obtain ⟨k, g, n, cap, hk, hn, rfl, rfl, hown, hb⟩ := hrel
    by_cases hlt : k < d
    · go_wp2_with (first
        | (go_at_call 21; refine (space_any k _ (by omega) _ (by omega)).mono ?_; rintro e w9 ⟨rfl, rfl⟩)
        | (at_builtin; refine wpList_app rfl (.tmp 79) (.tmp 82) rfl Trym.underlying22 info5 _ _ _ _ _ rfl (hown.alloc _) _ 1 1 [spc k] rfl _ (buf_lit1 _ _) (by omega) w3 (hb.alloc hb.size _) ?_; intro g10 cap10 w10 hown10 hb10))
      go_roundw
      case rel => exact ⟨k + 1, g10, n + 1, cap10, by omega, by omega, by go_num, rfl, by simpa [sp] using hown10, hb10⟩
      case measure => simp [intOf]; omega
    · have hownD : Own wr w3.heap.size g n cap (xs ++ [34] ++ esc (sb s) ++ [34] ++ sp d) := by
        have e : k = d := by omega
        rw [e] at hown
        exact hown
      clear hown
      go_wp2_with (first
        | (at_builtin; refine wpList_app rfl (.tmp 84) (.tmp 85) rfl Trym.underlying22 info5 _ _ _ _ _ rfl (hownD.alloc _) _ 1 1 [58] rfl _ (buf_lit1 _ _) (by omega) w3 (hb.alloc hb.size _) ?_; intro g11 cap11 w11 hown11 hb11)
        | (at_builtin; refine wpList_app rfl (.tmp 87) (.tmp 88) rfl Trym.underlying22 info5 _ _ _ _ _ rfl hown11 _ _ _ _ rfl _ (ht3.below hb11) (by omega) w3 hb11 ?_; intro g12 cap12 w12 hown12 hb12))
      have HA : Hid (Acc (xs ++ [34] ++ esc (sb s) ++ [34] ++ sp d ++ [58] ++ ys) len0 (len0 + 2 + ne) (len0 + ne + 2 + d)) := by
        have a := Acc_enc xs (sb s) ys d
        rw [HXL.out, HEL.out] at a
        rw [show len0 + 2 + ne = len0 + ne + 2 by omega]
        exact a
      have HB : Hid (((xs ++ [34] ++ esc (sb s) ++ [34] ++ sp d ++ [58] ++ ys).drop (len0 + 1)).take ne = esc (sb s)) := by
        have a := mid_esc xs (esc (sb s)) (sp d) [58] ys len0 HXL.out
        rw [HEL.out] at a
        exact a
      refine (zzScanName_m hown12.buf (by omega) len0 ne (len0 + ne + 2 + d) HA).mono ?_
      rintro e w13 ⟨no, rfl, hbn, rfl⟩
      rw [HB.out] at hbn
      have he4 := (he3.below hb12).mono hb12.size
      have hall : Below w.heap.size w w12 := hb3.trans (hb12.mono hb3.size)
      clear hb hownD hown11 hb11 hp3 ht3 he3
      go_wp2_with fail
      refine (same_any hbn he4 (Nat.le_refl _) (by omega)).mono ?_
      rintro e w14 ⟨rfl, hb14⟩
      go_wp2_with fail
      go_ret
      exact ⟨rfl, hall.trans (hb14.mono hall.size)⟩

theorem law4_walk {a0 a3 : Option Addr} {len0 cap0 len3 cap3 : Nat} {xs ys : List Int} {s : ByteArray} {d : Int} {w : World} (hp : Buf w.heap.size w a0 len0 cap0 xs) (ht : Buf w.heap.size w a3 len3 cap3 ys)
    (hd : -9223372036854775808 ≤ d ∧ d ≤ 9223372036854775807) :
    Calls Trym.prog 6 #[.slice a0 len0 cap0, .string s, .int .i64 d, .slice a3 len3 cap3] w fun e w' => e = .returned (.bool true) ∧ Below w.heap.size w w' := by
  by_cases h : 1048576 < len0 ∨ 1048576 < s.size ∨ 1048576 < len3 ∨ 1048576 < len0 + s.size + len3 ∨ d < 0 ∨ 64 < d
  · exact law4_early hd.1 hd.2 h
  · obtain ⟨j, rfl⟩ : ∃ j : Nat, d = (j : Int) := ⟨d.toNat, by omega⟩
    exact law4_main hp ht (by omega) (by omega)

end Go.Proofs.Qxb6001151aMods
