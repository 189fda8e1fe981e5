/-
  THE WALKS: zzCopyBytes, zzCat; skipValue over a Buf.
-/
import Derived.Test.Qxb6001151aModsVal
import Derived.Test.Qxb6001151aModsMem
namespace Go.Proofs.Qxb6001151aMods
open Go.RowKit Plain

theorem info5 : (Trym.prog.info? 5).map (fun i => (i.zero, i.size, i.bytes)) = some (some (.int .u8 0), 1, 1) := by kernel_rfl

/-- ZZskipValue over whatever can be read. -/
theorem zzSkipValue_buf {B : Nat} {ao : Option Addr} {len cap : Nat} {zs : List Int} {w : World} (h : Buf B w ao len cap zs) (hm : len ≤ 1099511627776) (j : Nat) (r : Int) (hr : Hid (V zs j = r)) :
    Calls Trym.prog 14 #[.slice ao len cap, .int .i64 j] w fun e w' => e = .returned (.int .i64 r) ∧ w = w' := by
  by_cases h0 : len = 0
  · exact zzSkipValue_any ao 0 0 len cap zs j w (.inl h0) h.length hm (fun i hi => by omega) r hr
  · obtain ⟨b, off, e, _, hc⟩ := h.cells (by omega)
    exact zzSkipValue_any ao b off len cap zs j w (.inr e) h.length hm hc r hr

theorem fill_step (zs : List Int) (n k : Nat) (h : zs.length = n) (hk : k < n) :
    (zs.take k ++ List.replicate (n - k) 0).set k (bt zs k) = zs.take (k + 1) ++ List.replicate (n - (k + 1)) 0 := by
  apply List.ext_getElem?
  intro i
  rw [List.getElem?_set]
  by_cases h1 : k = i
  · subst h1
    have : k < (zs.take k ++ List.replicate (n - k) (0 : Int)).length := by simp; omega
    rw [if_pos rfl, if_pos this]
    rw [List.getElem?_append_left (by simp; omega), List.getElem?_take, if_pos (by omega)]
    simp [bt, List.getD, show k < zs.length by omega]
  · rw [if_neg h1]
    by_cases h2 : i < k
    · rw [List.getElem?_append_left (by simp; omega), List.getElem?_append_left (by simp; omega), List.getElem?_take, List.getElem?_take, if_pos h2, if_pos (by omega)]
    · rw [List.getElem?_append_right (by simp; omega), List.getElem?_append_right (by simp; omega)]
      simp only [List.getElem?_replicate, List.length_take]
      by_cases h3 : i < n
      · rw [if_pos (by omega), if_pos (by omega)]
      · rw [if_neg (by omega), if_neg (by omega)]

theorem Own.store {w : World} {base g n cap : Nat} {zs : List Int} (h : Own w base g n cap zs) (k : Nat) (x : Int) : Own (w.setCell ⟨g, k, none⟩ (.int .u8 x)) base g n cap (zs.set k x) :=
  ⟨by rw [List.length_set]; exact h.1, by
    have := (h.2.stored k (.int .u8 x)).1
    rwa [List.map_set]⟩

set_option maxHeartbeats 400000 in
theorem copy_pos (b off len cap : Nat) (zs : List Int) (w : World) (hm : len ≤ 1099511627776) (hl : Hid (zs.length = len)) (hB : b < w.heap.size)
    (hc : ∀ i, i < len → w.cell? ⟨b, off + i, none⟩ = some (.int .u8 (bt zs i))) :
    Calls Trym.prog 13 #[.slice (some ⟨b, off, none⟩) len cap] w fun e w' => e = .returned (.slice (some ⟨w.heap.size, 0, none⟩) len len) ∧ Own w' w.heap.size w.heap.size len len zs ∧ Below w.heap.size w w' := by
  have q22 : ∀ (w : World) (a : Option Addr) (n c n' c' : Nat), (binOp .eql 22 (.slice a n c) (.slice none n' c')).run Trym.prog w = .ok (.bool a.isNone) w := fun w a n c n' c' => Lib.run_eql_slice_nil w _ _ a n c n' c' Trym.underlying22
  go_enter Trym.func13, Trym.ntmps13
  go_wp2_with (at_make; refine wpList_mkn rfl _ _ rfl Trym.underlying22 info5 _ _ len rfl rfl rfl rfl hm ?_; intro w1 hown1 hb1)
  go_loopw [4] (fun i wr => ∃ k : Nat, k ≤ len ∧ i = .int .i64 k ∧ Own wr w.heap.size w.heap.size len len (zs.take k ++ List.replicate (len - k) 0) ∧ Below w.heap.size w wr) (fun i _ => len - (intOf i).toNat)
  case atStart => exact ⟨0, Nat.zero_le _, rfl, by simpa using hown1, hb1⟩
  case round =>
    clear hown1 hb1
    obtain ⟨k, hk, rfl, hown, hb⟩ := hrel
    by_cases hlt : k < len
    · have hck : wr.cell? ⟨b, off + k, none⟩ = some (.int .u8 (bt zs k)) := (hb.cell (p := ⟨b, off + k, none⟩) hB).trans (hc k hlt)
      have ho := hown.cell hlt
      have hf := hown.2.frozenAt k
      have HO : Hid (Own (wr.setCell ⟨w.heap.size, k, none⟩ (.int .u8 (bt zs k))) w.heap.size w.heap.size len len (zs.take (k + 1) ++ List.replicate (len - (k + 1)) 0)) := by
        have := hown.store k (bt zs k)
        rw [fill_step zs len k hl.out hlt] at this
        exact this
      have HB : Hid (Below w.heap.size w (wr.setCell ⟨w.heap.size, k, none⟩ (.int .u8 (bt zs k)))) := hb.setCell (p := ⟨w.heap.size, k, none⟩) (Nat.le_refl _) _
      clear hown hb
      go_wp2_with fail
      go_roundw
      case rel => exact ⟨k + 1, by omega, by go_num, HO.out, HB.out⟩
      case measure => simp [intOf]; omega
    · have HO : Hid (Own wr w.heap.size w.heap.size len len zs) := by
        have e : k = len := by omega
        rw [e] at hown
        have hz : zs.take len = zs := List.take_of_length_le (by rw [hl.out]; omega)
        show Own wr w.heap.size w.heap.size len len zs
        simpa [hz] using hown
      clear hown
      go_wp2_with fail
      go_ret
      exact ⟨rfl, HO.out, hb⟩

set_option maxHeartbeats 400000 in
theorem copy_zero (x : Addr) (cap : Nat) (w : World) :
    Calls Trym.prog 13 #[.slice (some x) 0 cap] w fun e w' => e = .returned (.slice (some ⟨w.heap.size, 0, none⟩) 0 0) ∧ Own w' w.heap.size w.heap.size 0 0 [] ∧ Below w.heap.size w w' := by
  have q22 : ∀ (w : World) (a : Option Addr) (n c n' c' : Nat), (binOp .eql 22 (.slice a n c) (.slice none n' c')).run Trym.prog w = .ok (.bool a.isNone) w := fun w a n c n' c' => Lib.run_eql_slice_nil w _ _ a n c n' c' Trym.underlying22
  go_enter Trym.func13, Trym.ntmps13
  go_wp2_with (at_make; refine wpList_mkn rfl _ _ rfl Trym.underlying22 info5 _ _ 0 rfl rfl rfl rfl (by omega) ?_; intro w1 hown1 hb1)
  refine wp_loop_rounds 1 ?_
  rw [rounds_succ]
  go_wp2_with fail
  go_ret
  exact ⟨rfl, hown1, hb1⟩

set_option maxHeartbeats 400000 in
theorem copy_nil (w : World) :
    Calls Trym.prog 13 #[.slice none 0 0] w fun e w' => e = .returned (.slice none 0 0) ∧ w = w' := by
  have q22 : ∀ (w : World) (a : Option Addr) (n c n' c' : Nat), (binOp .eql 22 (.slice a n c) (.slice none n' c')).run Trym.prog w = .ok (.bool a.isNone) w := fun w a n c n' c' => Lib.run_eql_slice_nil w _ _ a n c n' c' Trym.underlying22
  go_enter Trym.func13, Trym.ntmps13
  go_wp2_with fail
  go_ret
  exact ⟨rfl, rfl⟩

/-- zzCopyBytes. -/
theorem copy_any {ao : Option Addr} {len cap : Nat} {zs : List Int} {w : World} (h : Buf w.heap.size w ao len cap zs) (hm : len ≤ 1099511627776) :
    Calls Trym.prog 13 #[.slice ao len cap] w fun e w' => ∃ ao', e = .returned (.slice ao' len len) ∧ Buf w'.heap.size w' ao' len len zs ∧ Below w.heap.size w w' := by
  cases ao with
  | none =>
    obtain ⟨rfl, rfl⟩ := h.nil rfl
    refine (copy_nil w).mono fun e w' ⟨he, hw⟩ => ?_
    subst hw
    exact ⟨none, he, h, Below.refl _ _⟩
  | some x =>
    by_cases h0 : len = 0
    · subst h0
      have hz : zs = [] := List.eq_nil_of_length_eq_zero h.length
      subst hz
      exact (copy_zero x cap w).mono fun e w' ⟨he, ho, hb⟩ => ⟨_, he, ho.buf, hb⟩
    · obtain ⟨b, off, e, hB, hc⟩ := h.cells (by omega)
      obtain rfl := Option.some.inj e
      exact (copy_pos b off len cap zs w hm h.length hB hc).mono fun e w' ⟨he, ho, hb⟩ => ⟨_, he, ho.buf, hb⟩

end Go.Proofs.Qxb6001151aMods
