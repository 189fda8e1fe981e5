/-
  THE WALK: quoted, at a single-quoted scalar.
-/
import Derived.Test.Qxb6602201aModsEq
namespace Go.Proofs.Qxb6602201aMods
open Go.RowKit Plain

/-- 'value' in the loop: nil, or a row of the call's own. -/
def VOwn (w : World) (base : Nat) (v : Value) (acc : List Int) : Prop :=
  (v = .slice none 0 0 ∧ acc = []) ∨ ∃ g n cap, v = .slice (some ⟨g, 0, none⟩) n cap ∧ Own w base g n cap acc

theorem ret3 {v : Value} {a b : Int} (h : a = b) : Ending.returned (.tuple #[v, .int .i64 a, .bool true]) = .returned (.tuple #[v, .int .i64 b, .bool true]) := by rw [h]

set_option maxRecDepth 100000 in
set_option maxHeartbeats 1600000 in
theorem quoted_single (b off len cap : Nat) (vs rest : List Int) (w : World) (hm : vs.length + rest.length ≤ 1048576) (hr : 0 < rest.length → bt rest 0 ≠ 39)
    (ht : Buf w.heap.size w (some ⟨b, off, none⟩) len cap (text fS 39 vs rest)) :
    Calls Trym.prog 20 #[.slice (some ⟨b, off, none⟩) len cap] w fun e w' => ∃ vo n c, e = .returned (.tuple #[.slice vo n c, .int .i64 ((enc fS vs).length + 2 : Nat), .bool true]) ∧ Buf w'.heap.size w' vo n c vs ∧ Below w.heap.size w w' := by
  have q22 : ∀ (w : World) (a : Option Addr) (n c n' c' : Nat), (binOp .eql 22 (.slice a n c) (.slice none n' c')).run Trym.prog w = .ok (.bool a.isNone) w := fun w a n c n' c' => Lib.run_eql_slice_nil w _ _ a n c n' c' Trym.underlying22
  have hlen := ht.length
  have hroom := ht.room
  rw [text_length] at hlen
  have hD := D_le fS fS_le vs vs.length
  rw [D_all fS vs vs.length (Nat.le_refl _)] at hD
  obtain ⟨b', off', e', hB, hc⟩ := ht.cells (by omega)
  simp only [Option.some.injEq, Addr.mk.injEq, and_true] at e'
  obtain ⟨rfl, rfl⟩ := e'
  have HL : Hid ((enc fS vs).length + 2 + rest.length = len) := hlen
  have hlb : len ≤ 3145730 := by omega
  have h2 : 2 ≤ len := by omega
  have hc0 : w.cell? ⟨b, off, none⟩ = some (.int .u8 39) := by
    have := hc 0 (by omega)
    rw [Nat.add_zero] at this
    exact this
  have HC : Hid (∀ wx p, Below w.heap.size w wx → p < len → wx.cell? ⟨b, off + p, none⟩ = some (.int .u8 (bt (text fS 39 vs rest) p))) := fun wx p hx hp => (hx.cell (p := ⟨b, off + p, none⟩) hB).trans (hc p hp)
  clear hc hlen hD
  go_enter Trym.func20, Trym.ntmps20
  go_wp2_with fail
  go_loopw [2, 6, 7] (fun v st i wr => ∃ (k p s : Nat) (acc : List Int), k ≤ vs.length ∧ Hid (p = 1 + D fS vs k) ∧ 1 ≤ p ∧ s ≤ p ∧ p < len ∧ st = .int .i64 s ∧ i = .int .i64 p ∧ VOwn wr w.heap.size v acc ∧ Hid (acc ++ pend (text fS 39 vs rest) s p = vs.take k) ∧ Below w.heap.size w wr) (fun _ _ i _ => len - (intOf i).toNat)
  case atStart => exact ⟨0, 1, 1, [], Nat.zero_le _, rfl, Nat.le_refl _, Nat.le_refl _, by omega, rfl, rfl, .inl ⟨rfl, rfl⟩, by simp [pend, Hid], Below.refl _ _⟩
  case round =>
    obtain ⟨k, p, s, acc, hk, HP, hp1, hsp, hpl, rfl, rfl, hv, HA, hb⟩ := hrel
    have hcs : ¬ cap = s := by omega
    have hal : acc.length + (p - s) ≤ 1048576 := by
      have a := congrArg List.length HA.out
      rw [List.length_append, pend_length _ _ _ (by rw [text_length]; have := HL.out; omega), List.length_take] at a
      omega
    by_cases hkn : k < vs.length
    · have hDk := D_step fS vs k hkn
      have hDm := text_mono fS vs (k + 1)
      have t0 := text_at fS 39 vs rest k 0 hkn
      have t1 := text_at fS 39 vs rest k 1 hkn
      rw [Nat.add_zero] at t0
      rw [← HP.out] at t0 t1
      have HT : Hid (vs.take (k + 1) = vs.take k ++ [bt vs k]) := take_succ_bt vs k hkn
      by_cases h39 : bt vs k = 39
      · have e39 : fS (bt vs k) = [39, 39] := by unfold fS; rw [if_pos h39]
        rw [e39] at hDk t0 t1
        have hp2 : p + 2 < len := by have := HP.out; have := HL.out; simp at hDk; omega
        have hcp : wr.cell? ⟨b, off + p, none⟩ = some (.int .u8 39) := by rw [HC.out wr p hb hpl, t0 (by simp)]; rfl
        have hcp1 : wr.cell? ⟨b, off + (p + 1), none⟩ = some (.int .u8 39) := by rw [HC.out wr (p + 1) hb (by omega), t1 (by simp)]; rfl
        have HP2 : Hid (p + 2 = 1 + D fS vs (k + 1)) := by have := HP.out; unfold Hid; simp at hDk; omega
        have HN : Hid (acc ++ pend (text fS 39 vs rest) s (p + 1) = vs.take (k + 1)) := by
          show _ = _
          rw [HT.out, pend_step _ _ _ hsp (by rw [text_length]; have := HL.out; omega), t0 (by simp), ← List.append_assoc, HA.out, h39]; rfl
        have hpart := (ht.below hb).part (s := s) (p := p + 1) (by omega) (by omega)
        clear hDk hDm t0 t1 h39 e39
        rcases hv with ⟨rfl, rfl⟩ | ⟨g, n, c, rfl, hown⟩
        · go_wp2_with (at_builtin; refine wpList_app0 rfl (.tmp 44) (.tmp 49) rfl Trym.underlying22 info5 w.heap.size hb.size rfl _ _ _ _ rfl _ hpart (by omega) (by omega) w hb ?_; intro g2 cap2 w2 hown2 hb2)
          go_roundw
          case rel => exact ⟨k + 1, p + 2, p + 2, _, by omega, HP2, by omega, Nat.le_refl _, hp2, by go_num, by go_num, .inr ⟨g2, _, cap2, rfl, hown2⟩, by rw [pend_self, List.append_nil]; exact HN.out, hb2⟩
          case measure => simp [intOf]; omega
        · have hn : n = acc.length := hown.1.symm
          have hn2 : n ≤ 1048576 := by omega
          clear hn
          go_wp2_with (at_builtin; refine wpList_app rfl (.tmp 44) (.tmp 49) rfl Trym.underlying22 info5 _ _ _ _ _ rfl hown _ _ _ _ rfl _ hpart (by omega) w hb ?_; intro g2 cap2 w2 hown2 hb2)
          go_roundw
          case rel => exact ⟨k + 1, p + 2, p + 2, _, by omega, HP2, by omega, Nat.le_refl _, hp2, by go_num, by go_num, .inr ⟨g2, _, cap2, rfl, hown2⟩, by rw [pend_self, List.append_nil]; exact HN.out, hb2⟩
          case measure => simp [intOf]; omega
      · have e39 : fS (bt vs k) = [bt vs k] := by unfold fS; rw [if_neg h39]
        rw [e39] at hDk t0 t1
        have hp2 : p + 1 < len := by have := HP.out; have := HL.out; simp at hDk; omega
        have hcp : wr.cell? ⟨b, off + p, none⟩ = some (.int .u8 (bt vs k)) := by rw [HC.out wr p hb hpl, t0 (by simp)]; rfl
        have hq : (bt vs k == 39) = false := by simpa using h39
        have HP2 : Hid (p + 1 = 1 + D fS vs (k + 1)) := by have := HP.out; unfold Hid; simp at hDk; omega
        have HN : Hid (acc ++ pend (text fS 39 vs rest) s (p + 1) = vs.take (k + 1)) := by
          show _ = _
          rw [HT.out, pend_step _ _ _ hsp (by rw [text_length]; have := HL.out; omega), t0 (by simp), ← List.append_assoc, HA.out]; rfl
        clear hDk hDm t0 t1 h39 e39
        go_wp2_with fail
        go_roundw
        case rel => exact ⟨k + 1, p + 1, s, acc, by omega, HP2, by omega, by omega, hp2, rfl, by go_num, hv, HN.out, hb⟩
        case measure => simp [intOf]; omega
    · have hcp : wr.cell? ⟨b, off + p, none⟩ = some (.int .u8 39) := by rw [HC.out wr p hb hpl, HP.out, text_quote fS 39 vs rest k (by omega)]
      have HP2 : Hid (p = 1 + (enc fS vs).length) := by rw [← D_all fS vs k (by omega)]; exact HP.out
      have HF : Hid (acc ++ pend (text fS 39 vs rest) s p = vs) := by
        show _ = _
        rw [HA.out, List.take_of_length_le (by omega)]
      have hpart := (ht.below hb).part (s := s) (p := p) (by omega) (by omega)
      have HR : Hid (p + 1 < len → (bt (text fS 39 vs rest) (p + 1) == 39) = false) := by
        intro hlt
        have e := text_rest fS 39 vs rest k (by omega)
        rw [← HP.out] at e
        have := hr (by have := HL.out; have := HP2.out; omega)
        rw [e]
        simpa using this
      have HE : Hid ((p : Int) + 1 = ((enc fS vs).length + 2 : Nat)) := by have := HP2.out; unfold Hid; omega
      clear hr
      by_cases hpe : p + 1 < len
      · have hcp1 := HC.out wr (p + 1) hb hpe
        have hq1 := HR.out hpe
        rcases hv with ⟨rfl, rfl⟩ | ⟨g, n, c, rfl, hown⟩
        · rw [show pend (text fS 39 vs rest) s p = vs from HF.out] at hpart
          go_wp2_with fail
          go_ret3
          exact ⟨_, _, _, ret3 HE.out, hpart.mono hb.size, hb⟩
        · have hn2 : n ≤ 1048576 := by have := hown.1; omega
          go_wp2_with (at_builtin; refine wpList_app rfl (.tmp 106) (.tmp 110) rfl Trym.underlying22 info5 _ _ _ _ _ rfl hown _ _ _ _ rfl _ hpart (by omega) w hb ?_; intro g2 cap2 w2 hown2 hb2)
          rw [HF.out] at hown2
          go_ret3
          exact ⟨_, _, _, ret3 HE.out, hown2.buf, hb2⟩
      · have hpe' : len ≤ p + 1 := by omega
        rcases hv with ⟨rfl, rfl⟩ | ⟨g, n, c, rfl, hown⟩
        · rw [show pend (text fS 39 vs rest) s p = vs from HF.out] at hpart
          go_wp2_with fail
          go_ret3
          exact ⟨_, _, _, ret3 HE.out, hpart.mono hb.size, hb⟩
        · have hn2 : n ≤ 1048576 := by have := hown.1; omega
          go_wp2_with (at_builtin; refine wpList_app rfl (.tmp 106) (.tmp 110) rfl Trym.underlying22 info5 _ _ _ _ _ rfl hown _ _ _ _ rfl _ hpart (by omega) w hb ?_; intro g2 cap2 w2 hown2 hb2)
          rw [HF.out] at hown2
          go_ret3
          exact ⟨_, _, _, ret3 HE.out, hown2.buf, hb2⟩
end Go.Proofs.Qxb6602201aMods
