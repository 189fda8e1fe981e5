/-
  THE WALK: FnSkipValueFindsEncodedValue.
-/
import Derived.Test.Qxb6001151aModsLaw2
import Derived.Test.Qxb6001151aModsStrs
namespace Go.Proofs.Qxb6001151aMods
open Go.RowKit Plain

/-! ### The text that is built, piece by piece -/
def itemsOf (ss : List ByteArray) : List (List Int) := ss.map sb
theorem itemsOf_get (ss : List ByteArray) (k : Nat) (h : k < ss.length) : (itemsOf ss).getD k [] = sb (st ss k) := by
  simp [itemsOf, st, List.getD, h]
/-- Up to the first k items. -/
def E3 (ss : List ByteArray) (depth k : Nat) : List Int := rep opn depth ++ [91] ++ bodyN (itemsOf ss) k
/-- Behind the items: k closings. -/
def E4 (ss : List ByteArray) (depth n k : Nat) : List Int := E3 ss depth n ++ [93] ++ rep cls k
theorem E3_first (ss : List ByteArray) (depth : Nat) (h : 0 < ss.length) : E3 ss depth 0 ++ [34] ++ esc (sb (st ss 0)) ++ [34] = E3 ss depth 1 := by
  simp only [E3, bodyN, itm, itemsOf_get ss 0 h]; simp
theorem E3_next (ss : List ByteArray) (depth k : Nat) (hk : 0 < k) (h : k < ss.length) : E3 ss depth k ++ [44] ++ [34] ++ esc (sb (st ss k)) ++ [34] = E3 ss depth (k + 1) := by
  simp only [E3, bodyN, itm, itemsOf_get ss k h, hk]; simp
theorem E4_step (ss : List ByteArray) (depth n k : Nat) : E4 ss depth n k ++ [93, 125] = E4 ss depth n (k + 1) := by simp [E4, rep, cls]
theorem E4_all (ss : List ByteArray) (depth n : Nat) : E4 ss depth n depth = encV (itemsOf ss) n depth := by simp [E4, E3, encV]
theorem body_le (ss : List ByteArray) (n : Nat) (hn : n ≤ ss.length) (h : ∀ i, i < n → (st ss i).size ≤ 1048576) : (bodyN (itemsOf ss) n).length ≤ n * 2097155 := by
  induction n with
  | zero => simp [bodyN]
  | succ n ih =>
    have a := ih (by omega) (fun i hi => h i (by omega))
    have b := h n (by omega)
    have c := (esc_length (sb (st ss n))).2
    rw [sb_length] at c
    have d : (if 0 < n then [(44 : Int)] else []).length ≤ 1 := by split <;> simp
    simp only [bodyN, List.length_append, itemsOf_get ss n (by omega), itm_length]
    omega
theorem E3_le (ss : List ByteArray) (depth n : Nat) (hd : depth ≤ 64) (hn : n ≤ ss.length) (h : ∀ i, i < n → (st ss i).size ≤ 1048576) : (E3 ss depth n).length ≤ 385 + n * 2097155 := by
  have a := body_le ss n hn h
  have b := rep_length opn depth
  have c : opn.length = 6 := rfl
  simp only [E3, List.length_append, List.length_cons, List.length_nil, b, c]
  omega
theorem E4_le (ss : List ByteArray) (depth n k : Nat) (hd : depth ≤ 64) (hk : k ≤ 64) (hn : n ≤ ss.length) (h : ∀ i, i < n → (st ss i).size ≤ 1048576) : (E4 ss depth n k).length ≤ 600 + n * 2097155 := by
  have a := E3_le ss depth n hd hn h
  have b := rep_length cls k
  have c : cls.length = 2 := rfl
  simp only [E4, List.length_append, List.length_cons, List.length_nil, b, c]
  omega

theorem buf_opn (w : World) : Buf (w.heap.size + 1) (w.alloc (.cells #[.int .u8 123, .int .u8 34, .int .u8 107, .int .u8 34, .int .u8 58, .int .u8 91] 5)) (some ⟨w.heap.size, 0, none⟩) 6 6 [123, 34, 107, 34, 58, 91] := buf_lit w [123, 34, 107, 34, 58, 91] 6 rfl _ rfl _
theorem rep_opn_step (k : Nat) : rep opn k ++ [123, 34, 107, 34, 58, 91] = rep opn (k + 1) := by simp [rep, opn]
theorem rep_opn_le (k : Nat) : (rep opn k).length = k * 6 := rep_length opn k

theorem esc_len_le {w : World} {base g n cap : Nat} {s : ByteArray} (h : Own w base g n cap (esc (sb s))) (hs : s.size ≤ 1048576) : n ≤ 2097152 := by
  have a := (esc_length (sb s)).2
  rw [sb_length] at a
  have := h.1
  omega

set_option maxHeartbeats 800000 in
theorem law3_early {a0 ao a3 : Option Addr} {len0 cap0 len cap len3 cap3 : Nat} {ss : List ByteArray} {d : Int} {w : World} (hs : SBuf w.heap.size w ao len ss) (hsz : ∀ k, (st ss k).size ≤ 9223372036854775807)
    (h : 1048576 < len0 ∨ 1048576 < len3 ∨ 65536 < len ∨ 1048576 < len0 + len3) :
    Calls Trym.prog 5 #[.slice a0 len0 cap0, .slice ao len cap, .int .i64 d, .slice a3 len3 cap3] w fun e w' => e = .returned (.bool true) ∧ Below w.heap.size w w' := by
  have cases4 : (1048576 < len0) ∨ (¬ 1048576 < len0 ∧ 1048576 < len3) ∨ (¬ 1048576 < len0 ∧ ¬ 1048576 < len3 ∧ 65536 < len) ∨ (¬ 1048576 < len0 ∧ ¬ 1048576 < len3 ∧ ¬ 65536 < len ∧ 1048576 < len0 + len3) := by omega
  clear h
  rcases cases4 with h1 | ⟨h1, h2⟩ | ⟨h1, h2, h3⟩ | ⟨h1, h2, h3, h4⟩
  all_goals
    go_enter Trym.func5, Trym.ntmps5
    go_wp2_with fail
    refine (sbytes_any hs hsz).mono ?_
    rintro e w1 ⟨⟨t, rfl⟩, rfl⟩
    cases t
    all_goals
      go_wp2_with fail
      go_ret
      exact ⟨rfl, Below.refl _ _⟩

set_option maxHeartbeats 2000000 in
theorem law3_main {a0 ao a3 : Option Addr} {len0 cap0 len cap len3 cap3 : Nat} {xs ys : List Int} {ss : List ByteArray} {d : Int} {w : World} (hp : Buf w.heap.size w a0 len0 cap0 xs) (hs : SBuf w.heap.size w ao len ss) (hnil : ao = none → len = 0 ∧ cap = 0)
    (ht : Buf w.heap.size w a3 len3 cap3 ys) (hsz : ∀ k, (st ss k).size ≤ 9223372036854775807) (h1 : len0 ≤ 1048576) (h2 : len3 ≤ 1048576) (h3 : len ≤ 65536) (h4 : len0 + len3 ≤ 1048576) (hd1 : -9223372036854775808 ≤ d) (hd2 : d ≤ 9223372036854775807) :
    Calls Trym.prog 5 #[.slice a0 len0 cap0, .slice ao len cap, .int .i64 d, .slice a3 len3 cap3] w fun e w' => e = .returned (.bool true) ∧ Below w.heap.size w w' := by
  go_enter Trym.func5, Trym.ntmps5
  go_wp2_with fail
  refine (sbytes_any hs hsz).mono ?_
  rintro e w1 ⟨⟨t, rfl⟩, rfl⟩
  cases t
  · go_wp2_with fail
    go_ret
    exact ⟨rfl, Below.refl _ _⟩
  · go_wp2_with fail
    go_loop [9, 10] (fun z k => ∃ (q n : Nat), q ≤ 1048576 ∧ z = .int .i64 q ∧ n ≤ len ∧ k = .int .i64 n ∧ Hid (∀ i, i < n → (st ss i).size ≤ 1048576)) (fun _ k => len - (intOf k).toNat)
    case atStart => exact ⟨len0 + len3, 0, by omega, by go_num, by omega, rfl, fun i hi => by omega⟩
    case round =>
      obtain ⟨q, n, hq, rfl, hn, rfl, hall⟩ := hrel
      have hz := hsz n
      by_cases hlt : n < len
      · obtain ⟨b, off, e, _, hc⟩ := hs.cells (by omega)
        subst e
        have hck := hc n hlt
        clear hc
        go_wp2_with fail
        · go_ret
          exact ⟨rfl, Below.refl _ _⟩
        · go_ret
          exact ⟨rfl, Below.refl _ _⟩
        · have h9 : (q : Int) + (16 + ((st ss n).size : Int)) ≤ 1048576 := by assumption
          go_round
          case rel => exact ⟨q + (16 + (st ss n).size), n + 1, by omega, by go_num, by omega, by go_num, fun i hi => by
            by_cases e : i = n
            · subst e; omega
            · exact hall.out i (by omega)⟩
          case measure => simp [intOf]; omega
      · have hall' : Hid (∀ i, i < len → (st ss i).size ≤ 1048576) := fun i hi => hall.out i (by omega)
        clear hall hz
        by_cases hdr : d < 0
        · go_wp2_with fail
          go_ret
          exact ⟨rfl, Below.refl _ _⟩
        · by_cases hdr2 : 64 < d
          · go_wp2_with fail
            go_ret
            exact ⟨rfl, Below.refl _ _⟩
          · obtain ⟨depth, rfl⟩ : ∃ m : Nat, d = (m : Int) := ⟨d.toNat, by omega⟩
            have hssl : Hid (ss.length = len) := hs.length
            go_wp2_with fail
            refine (copy_any hp (by omega)).mono ?_
            rintro e w1 ⟨po, rfl, hp1, hb1⟩
            have hs1 := (hs.below hb1).mono hb1.size
            have ht1 := (ht.below hb1).mono hb1.size
            clear hp hs ht
            go_wp2_with fail
            refine (scopy_any hs1 hnil (by omega)).mono ?_
            rintro e w2 ⟨so, rfl, hs2, hb2'⟩
            have hb2 := hb1.trans (hb2'.mono hb1.size)
            have hp2 := (hp1.below hb2').mono hb2'.size
            have ht2 := (ht1.below hb2').mono hb2'.size
            clear hp1 hs1 ht1 hb1 hb2'
            go_wp2_with fail
            refine (copy_any ht2 (by omega)).mono ?_
            rintro e w3 ⟨to, rfl, ht3, hb3'⟩
            have hb3 := hb2.trans (hb3'.mono hb2.size)
            have hp3 := (hp2.below hb3').mono hb3'.size
            have hs3 := (hs2.below hb3').mono hb3'.size
            clear hp2 hs2 ht2 hb2 hb3'
            go_wp2_with (at_make; refine wpList_mk0 rfl _ _ rfl Trym.underlying22 info5 _ (2 * q + 16 * depth + 2) rfl rfl (by omega) (by omega) ?_; intro w4 hown4 hb4)
            obtain ⟨M, hM⟩ : ∃ M, M = w3.heap.size := ⟨_, rfl⟩
            have HM : Hid (M = w3.heap.size) := hM
            rw [← hM] at hown4 hb4 hp3 hs3 ht3
            clear hM
            go_loopw [11, 12] (fun v i wr => ∃ k g n cap : Nat, k ≤ depth ∧ i = .int .i64 k ∧ v = .slice (some ⟨g, 0, none⟩) n cap ∧ Own wr M g n cap (rep opn k) ∧ Below M w3 wr) (fun _ i _ => depth - (intOf i).toNat)
            case atStart => exact ⟨0, _, 0, _, Nat.zero_le _, rfl, by rw [HM.out], hown4, hb4⟩
            case round =>
              clear hown4 hb4
              obtain ⟨k, g, n4, cap4, hk, rfl, rfl, hown, hb⟩ := hrel
              have hn4 : n4 ≤ 384 := by have := hown.1; rw [rep_opn_le] at this; omega
              by_cases hlt2 : k < depth
              · go_wp2_with (at_builtin; refine wpList_app rfl (.tmp 84) (.tmp 85) rfl Trym.underlying22 info5 _ _ _ _ _ rfl (hown.alloc _) _ 6 6 [123, 34, 107, 34, 58, 91] rfl _ (buf_opn _) (by omega) w3 (hb.alloc (by rw [HM.out]; exact hb.size) _) ?_; intro g5 cap5 w5 hown5 hb5)
                go_roundw
                case rel => exact ⟨k + 1, g5, n4 + 6, cap5, by omega, by go_num, rfl, by rw [← rep_opn_step]; exact hown5, hb5⟩
                case measure => simp [intOf]; omega
              · have hownD : Own wr M g n4 cap4 (rep opn depth) := by
                  have e : k = depth := by omega
                  rw [← e]; exact hown
                clear hown
                go_wp2_with (at_builtin; refine wpList_app rfl (.tmp 87) (.tmp 88) rfl Trym.underlying22 info5 _ _ _ _ _ rfl (hownD.alloc _) _ 1 1 [91] rfl _ (buf_lit1 _ _) (by omega) w3 (hb.alloc (by rw [HM.out]; exact hb.size) _) ?_; intro g6 cap6 w6 hown6 hb6)
                go_loopw [11, 13] (fun v i wr => ∃ k g n cap : Nat, k ≤ len ∧ i = .int .i64 k ∧ v = .slice (some ⟨g, 0, none⟩) n cap ∧ Own wr M g n cap (E3 ss depth k) ∧ Below M w3 wr) (fun _ i _ => len - (intOf i).toNat)
                case atStart => exact ⟨0, _, _, _, Nat.zero_le _, rfl, rfl, by simpa [E3, bodyN] using hown6, hb6⟩
                case round =>
                  clear hown6 hb6 hownD hb
                  obtain ⟨k3, g, n7, cap7, hk3, rfl, rfl, hown, hb⟩ := hrel
                  have hn7 : n7 ≤ 385 + k3 * 2097155 := by have := E3_le ss depth k3 (by omega) (by rw [hssl.out]; exact hk3) (fun i hi => hall'.out i (by omega)); have := hown.1; omega
                  by_cases hlt3 : k3 < len
                  · obtain ⟨b, off, e, hB, hc⟩ := hs3.cells (by omega)
                    subst e
                    have hszk : (st ss k3).size ≤ 1048576 := hall'.out k3 hlt3
                    have HL : Hid (k3 < ss.length) := by rw [hssl.out]; exact hlt3
                    have HC : Hid (∀ wx, Below M w3 wx → wx.cell? ⟨b, off + k3, none⟩ = some (.string (st ss k3))) := fun wx hx => (hx.cell (p := ⟨b, off + k3, none⟩) hB).trans (hc k3 hlt3)
                    clear hc
                    by_cases hk0 : 0 < k3
                    · have HE : Hid (E3 ss depth k3 ++ [44] ++ [34] ++ esc (sb (st ss k3)) ++ [34] = E3 ss depth (k3 + 1)) := E3_next ss depth k3 hk0 HL.out
                      go_wp2_with (first
                    | (at_builtin; refine wpList_app rfl (.tmp 98) (.tmp 99) rfl Trym.underlying22 info5 _ _ _ _ _ rfl (hown.alloc _) _ 1 1 [44] rfl _ (buf_lit1 _ _) (by omega) w3 (hb.alloc (by rw [HM.out]; exact hb.size) _) ?_; intro g8 cap8 w8 hown8 hb8)
                    | (at_builtin; refine wpList_app rfl (.tmp 101) (.tmp 102) rfl Trym.underlying22 info5 _ _ _ _ _ rfl (hown8.alloc _) _ 1 1 [34] rfl _ (buf_lit1 _ _) (by omega) w3 (hb8.alloc (by rw [HM.out]; exact hb8.size) _) ?_; intro g9 cap9 w9 hown9 hb9; have hck := HC.out w9 hb9)
                    | (go_at_call 19; refine (esc_any _ _ (by omega)).mono ?_; rintro e w10 ⟨ge, ne, ce, rfl, howne, hb10⟩; have hne : ne ≤ 2097152 := esc_len_le howne hszk; have hown10 := hown9.below hb10 hown9.lt.2; have hb10' : Below M w3 w10 := hb9.trans (hb10.mono (by rw [HM.out]; exact hb9.size)))
                    | (at_builtin; refine wpList_app rfl (.tmp 104) (.tmp 109) rfl Trym.underlying22 info5 _ _ _ _ _ rfl hown10 _ _ _ _ rfl _ howne.buf (by omega) w3 hb10' ?_; intro g11 cap11 w11 hown11 hb11)
                    | (at_builtin; refine wpList_app rfl (.tmp 111) (.tmp 112) rfl Trym.underlying22 info5 _ _ _ _ _ rfl (hown11.alloc _) _ 1 1 [34] rfl _ (buf_lit1 _ _) (by omega) w3 (hb11.alloc (by rw [HM.out]; exact hb11.size) _) ?_; intro g12 cap12 w12 hown12 hb12))
                      go_roundw
                      case rel => exact ⟨k3 + 1, g12, n7 + 1 + 1 + ne + 1, cap12, by omega, by go_num, rfl, by rw [← HE.out]; exact hown12, hb12⟩
                      case measure => simp [intOf]; omega
                    · have h00 : 2 * (k3 : Int) ≤ 1 := by omega
                      have HE : Hid (E3 ss depth k3 ++ [34] ++ esc (sb (st ss k3)) ++ [34] = E3 ss depth (k3 + 1)) := by
                        have e : k3 = 0 := by omega
                        subst e
                        exact E3_first ss depth HL.out
                      clear hk0
                      go_wp2_with (first
                    | (at_builtin; refine wpList_app rfl (.tmp 101) (.tmp 102) rfl Trym.underlying22 info5 _ _ _ _ _ rfl (hown.alloc _) _ 1 1 [34] rfl _ (buf_lit1 _ _) (by omega) w3 (hb.alloc (by rw [HM.out]; exact hb.size) _) ?_; intro g9 cap9 w9 hown9 hb9; have hck := HC.out w9 hb9)
                    | (go_at_call 19; refine (esc_any _ _ (by omega)).mono ?_; rintro e w10 ⟨ge, ne, ce, rfl, howne, hb10⟩; have hne : ne ≤ 2097152 := esc_len_le howne hszk; have hown10 := hown9.below hb10 hown9.lt.2; have hb10' : Below M w3 w10 := hb9.trans (hb10.mono (by rw [HM.out]; exact hb9.size)))
                    | (at_builtin; refine wpList_app rfl (.tmp 104) (.tmp 109) rfl Trym.underlying22 info5 _ _ _ _ _ rfl hown10 _ _ _ _ rfl _ howne.buf (by omega) w3 hb10' ?_; intro g11 cap11 w11 hown11 hb11)
                    | (at_builtin; refine wpList_app rfl (.tmp 111) (.tmp 112) rfl Trym.underlying22 info5 _ _ _ _ _ rfl (hown11.alloc _) _ 1 1 [34] rfl _ (buf_lit1 _ _) (by omega) w3 (hb11.alloc (by rw [HM.out]; exact hb11.size) _) ?_; intro g12 cap12 w12 hown12 hb12))
                      go_roundw
                      case rel => exact ⟨k3 + 1, g12, n7 + 1 + ne + 1, cap12, by omega, by go_num, rfl, by rw [← HE.out]; exact hown12, hb12⟩
                      case measure => simp [intOf]; omega
                  · have hownL : Own wr M g n7 cap7 (E3 ss depth len) := by
                      have e : k3 = len := by omega
                      rw [← e]; exact hown
                    clear hown
                    go_wp2_with (at_builtin; refine wpList_app rfl (.tmp 114) (.tmp 115) rfl Trym.underlying22 info5 _ _ _ _ _ rfl (hownL.alloc _) _ 1 1 [93] rfl _ (buf_lit1 _ _) (by omega) w3 (hb.alloc (by rw [HM.out]; exact hb.size) _) ?_; intro g13 cap13 w13 hown13 hb13)
                    go_loopw [11, 14] (fun v i wr => ∃ k g n cap : Nat, k ≤ depth ∧ i = .int .i64 k ∧ v = .slice (some ⟨g, 0, none⟩) n cap ∧ Own wr M g n cap (E4 ss depth len k) ∧ Below M w3 wr) (fun _ i _ => depth - (intOf i).toNat)
                    case atStart => exact ⟨0, _, _, _, Nat.zero_le _, rfl, rfl, by simpa [E4, rep] using hown13, hb13⟩
                    case round =>
                      clear hown13 hb13 hownL hb
                      obtain ⟨k4, g, n14, cap14, hk4, rfl, rfl, hown, hb⟩ := hrel
                      have hn14 : n14 ≤ 600 + len * 2097155 := by have := E4_le ss depth len k4 (by omega) (by omega) (by rw [hssl.out]; omega) hall'.out; have := hown.1; omega
                      by_cases hlt4 : k4 < depth
                      · go_wp2_with (at_builtin; refine wpList_app rfl (.tmp 122) (.tmp 123) rfl Trym.underlying22 info5 _ _ _ _ _ rfl (hown.alloc _) _ 2 2 [93, 125] rfl _ (buf_lit2 _ _ _) (by omega) w3 (hb.alloc (by rw [HM.out]; exact hb.size) _) ?_; intro g15 cap15 w15 hown15 hb15)
                        go_roundw
                        case rel => exact ⟨k4 + 1, g15, n14 + 2, cap15, by omega, by go_num, rfl, by rw [← E4_step]; exact hown15, hb15⟩
                        case measure => simp [intOf]; omega
                      · have hownE : Own wr M g n14 cap14 (encV (itemsOf ss) len depth) := by
                          have e : k4 = depth := by omega
                          rw [e] at hown
                          rw [← E4_all]; exact hown
                        have hEl : Hid ((encV (itemsOf ss) len depth).length = n14) := hownE.1
                        clear hown
                        have hMs : M ≤ wr.heap.size := by rw [HM.out]; exact hb.size
                        have hp4 := (hp3.below hb).mono hMs
                        have ht4 := (ht3.below hb).mono hMs
                        have hxl : Hid (xs.length = len0) := hp3.length
                        have hall3 : Below w.heap.size w wr := hb3.trans (hb.mono (by rw [HM.out]; exact hb3.size))
                        clear hp3 ht3 hs3 hb3 hb
                        go_wp2_with fail
                        refine (cat_any hp4 hownE.buf (Nat.le_refl _) (by omega) (by omega)).mono ?_
                        rintro e w16 ⟨g16, cap16, rfl, hown16, hb16⟩
                        have ht5 := (ht4.below hb16).mono hb16.size
                        have hB16 := hall3.trans (hb16.mono hall3.size)
                        go_wp2_with fail
                        refine (cat_any hown16.buf ht5 (Nat.le_refl _) (by omega) (by omega)).mono ?_
                        rintro e w17 ⟨g17, cap17, rfl, hown17, hb17⟩
                        have hB17 := hB16.trans (hb17.mono hB16.size)
                        have HV : Hid (V (xs ++ encV (itemsOf ss) len depth ++ ys) len0 = (len0 : Int) + (n14 : Int)) := by
                          have := V_enc (itemsOf ss) len depth xs ys
                          rw [hxl.out, hEl.out] at this
                          exact this
                        go_wp2_with fail
                        refine (zzSkipValue_at hown17.buf (by omega) _ len0 rfl _ HV).mono ?_
                        rintro e w18 ⟨rfl, rfl⟩
                        go_wp2_with fail
                        go_ret
                        exact ⟨ret_bool (by simp), hB17⟩
/-- What a row of strings that came in reads as. -/
theorem sbuf_of_row {w : World} {a : Option Addr} {len cap : Nat} {ss : List ByteArray}
    (h : (a = none ∧ len = 0 ∧ cap = 0 ∧ ss = []) ∨
      ∃ x, a = some x ∧ len ≤ cap ∧ cap ≤ maxLen ∧ ss.length = cap ∧ (∀ i, i < ss.length → w.cell? (x.add i) = some (.string (ss.getD i ByteArray.empty))) ∧ ∀ s ∈ ss, s.size ≤ maxLen) :
    SBuf w.heap.size w a len (ss.take len) ∧ (a = none → len = 0 ∧ cap = 0) ∧ ∀ k, (st (ss.take len) k).size ≤ 9223372036854775807 := by
  rcases h with ⟨rfl, rfl, rfl, rfl⟩ | ⟨x, rfl, hl, hm, hz, hcell, hw⟩
  · exact ⟨⟨rfl, fun h => absurd h (by omega)⟩, fun _ => ⟨rfl, rfl⟩, fun k => by simp [st]⟩
  · refine ⟨⟨by simp; omega, fun hp => ?_⟩, fun h => by simp at h, fun k => ?_⟩
    · obtain ⟨b, off, spot⟩ := x
      have hc0 := hcell 0 (by omega)
      have hspot : spot = none := by simpa [Addr.add] using World.cell?_spot hc0
      subst hspot
      refine ⟨b, off, rfl, ?_, fun i hi => ?_⟩
      · have := World.block_lt_of_cell? _ _ hc0
        simpa [Addr.add] using this
      · have := hcell i (by omega)
        rw [Addr.add_lit] at this
        have e : st (ss.take len) i = ss.getD i ByteArray.empty := by simp [st, List.getD, hi]
        rw [e]
        exact this
    · by_cases hk : k < (ss.take len).length
      · have e : st (ss.take len) k = (ss.take len)[k] := by simp only [st, List.getD, List.getElem?_eq_getElem hk, Option.getD_some]
        rw [e]
        have := hw _ (List.mem_of_mem_take (List.getElem_mem hk))
        unfold maxLen at this
        omega
      · have e : st (ss.take len) k = ByteArray.empty := by
          simp only [st, List.getD]
          rw [List.getElem?_eq_none (by omega)]
          rfl
        rw [e]
        decide

theorem law3_walk {a0 ao a3 : Option Addr} {len0 cap0 len cap len3 cap3 : Nat} {xs ys : List Int} {ss : List ByteArray} {d : Int} {w : World} (hp : Buf w.heap.size w a0 len0 cap0 xs)
    (hs : SBuf w.heap.size w ao len ss ∧ (ao = none → len = 0 ∧ cap = 0) ∧ ∀ k, (st ss k).size ≤ 9223372036854775807)
    (ht : Buf w.heap.size w a3 len3 cap3 ys) (hd : -9223372036854775808 ≤ d ∧ d ≤ 9223372036854775807) :
    Calls Trym.prog 5 #[.slice a0 len0 cap0, .slice ao len cap, .int .i64 d, .slice a3 len3 cap3] w fun e w' => e = .returned (.bool true) ∧ Below w.heap.size w w' := by
  obtain ⟨hs1, hs2, hs3⟩ := hs
  by_cases h : 1048576 < len0 ∨ 1048576 < len3 ∨ 65536 < len ∨ 1048576 < len0 + len3
  · exact law3_early hs1 hs3 h
  · exact law3_main hp hs1 hs2 ht hs3 (by omega) (by omega) (by omega) (by omega) hd.1 hd.2

end Go.Proofs.Qxb6001151aMods
