/-
  SLICES OF STRINGS: zzCopyStrings; the bound zzBytes of FnSkipValueFindsEncodedValue.
-/
import Derived.Test.Qxb6001151aModsEsc
namespace Go.Proofs.Qxb6001151aMods
open Go.RowKit Plain

/-- The string at place i. -/
def st (ss : List ByteArray) (i : Nat) : ByteArray := ss.getD i ByteArray.empty

/-- The slice '(ao, len, cap)' reads as the strings ss; where it has any they lie in a block below B. -/
structure SBuf (B : Nat) (w : World) (ao : Option Addr) (len : Nat) (ss : List ByteArray) : Prop where
  length : ss.length = len
  cells : 0 < len → ∃ b off, ao = some ⟨b, off, none⟩ ∧ b < B ∧ ∀ i, i < len → w.cell? ⟨b, off + i, none⟩ = some (.string (st ss i))

theorem SBuf.below {B : Nat} {w w' : World} {ao : Option Addr} {len : Nat} {ss : List ByteArray} (h : SBuf B w ao len ss) (hb : Below B w w') : SBuf B w' ao len ss :=
  ⟨h.length, fun hp => by
    obtain ⟨b, off, e, hB, hc⟩ := h.cells hp
    exact ⟨b, off, e, hB, fun i hi => (hb.cell (p := ⟨b, off + i, none⟩) hB).trans (hc i hi)⟩⟩
theorem SBuf.mono {B B' : Nat} {w : World} {ao : Option Addr} {len : Nat} {ss : List ByteArray} (h : SBuf B w ao len ss) (hb : B ≤ B') : SBuf B' w ao len ss :=
  ⟨h.length, fun hp => by
    obtain ⟨b, off, e, hB, hc⟩ := h.cells hp
    exact ⟨b, off, e, by omega, hc⟩⟩

theorem info9 : (Trym.prog.info? 9).map (fun i => (i.zero, i.size, i.bytes)) = some (some (.string ByteArray.empty), 1, 16) := by kernel_rfl

/-- The call's own row of strings. -/
def SOwn (w : World) (base g n : Nat) (ss : List ByteArray) : Prop :=
  ss.length = n ∧ w.ownsRow base 9 1 (.slice (some ⟨g, 0, none⟩) n n) n (ss.map Value.string)

theorem SOwn.cell {w : World} {base g n : Nat} {ss : List ByteArray} (h : SOwn w base g n ss) {i : Nat} (hi : i < n) : w.cell? ⟨g, i, none⟩ = some (.string (st ss i)) := by
  have e := h.2.cellAt i (by omega)
  have hl := h.1
  have hi' : i < ss.length := by omega
  rw [e]
  simp [st, List.getD, hi']
theorem SOwn.buf {w : World} {base g n : Nat} {ss : List ByteArray} (h : SOwn w base g n ss) : SBuf w.heap.size w (some ⟨g, 0, none⟩) n ss :=
  ⟨h.1, fun _ => ⟨g, 0, rfl, (h.2.lt g rfl).2, fun i hi => by rw [Nat.zero_add]; exact h.cell hi⟩⟩
theorem SOwn.store {w : World} {base g n : Nat} {ss : List ByteArray} (h : SOwn w base g n ss) (k : Nat) (x : ByteArray) : SOwn (w.setCell ⟨g, k, none⟩ (.string x)) base g n (ss.set k x) :=
  ⟨by rw [List.length_set]; exact h.1, by
    have := (h.2.stored k (.string x)).1
    rwa [List.map_set]⟩

theorem sfill_step (ss : List ByteArray) (n k : Nat) (h : ss.length = n) (hk : k < n) :
    (ss.take k ++ List.replicate (n - k) ByteArray.empty).set k (st ss k) = ss.take (k + 1) ++ List.replicate (n - (k + 1)) ByteArray.empty := by
  apply List.ext_getElem?
  intro i
  rw [List.getElem?_set]
  by_cases h1 : k = i
  · subst h1
    have : k < (ss.take k ++ List.replicate (n - k) ByteArray.empty).length := by simp; omega
    rw [if_pos rfl, if_pos this]
    rw [List.getElem?_append_left (by simp; omega), List.getElem?_take, if_pos (by omega)]
    simp [st, List.getD, show k < ss.length by omega]
  · rw [if_neg h1]
    by_cases h2 : i < k
    · rw [List.getElem?_append_left (by simp; omega), List.getElem?_append_left (by simp; omega), List.getElem?_take, List.getElem?_take, if_pos h2, if_pos (by omega)]
    · rw [List.getElem?_append_right (by simp; omega), List.getElem?_append_right (by simp; omega)]
      simp only [List.getElem?_replicate, List.length_take]
      by_cases h3 : i < n
      · rw [if_pos (by omega), if_pos (by omega)]
      · rw [if_neg (by omega), if_neg (by omega)]

/-- 'make([]string, n)'. -/
theorem wpList_mks {w : World} {ops : Array Oper} {rest : List Oper} {o : Oper} {a : Act} {Q : Exit → Act → World → Prop}
    (hg : o.guard = none) (l c : Operand) (hop : o.op = Op.makeSlice 28 l c)
    (L C : Int) (n : Nat) (hl : a.eval l = .int .i64 L) (hc : a.eval c = .int .i64 C) (hL : L = (n : Int)) (hC : C = (n : Int)) (hn : n ≤ 1073741824)
    (hK : ∀ w', SOwn w' w.heap.size w.heap.size n (List.replicate n ByteArray.empty) → Below w.heap.size w w' → wpList Trym.prog ops Q rest (a.put o.dst (.slice (some ⟨w.heap.size, 0, none⟩) n n)) w') :
    wpList Trym.prog ops Q (o :: rest) a w := by
  obtain ⟨i, hi, hz0, hz1, hz2⟩ := info_parts info9
  refine wpList_make_full w hg l c 28 hop w.heap.size 9 i (.string ByteArray.empty) 1 Trym.underlying28 hi hz0 hz1 .i64 .i64 L C n hl hc hL hC (by rw [hz2]; omega) (by unfold maxLen; omega) (Nat.le_refl _) ?_
  intro w' hown hgr
  refine hK w' ⟨by simp, ?_⟩ ((Below.refl _ _).grown hgr (Nat.le_refl _) (fun k hk => by cases hk))
  have e : (madeCells (Value.string ByteArray.empty).cells (n * 1)).toList = (List.replicate n ByteArray.empty).map Value.string := by
    rw [show (Value.string ByteArray.empty).cells = #[Value.string ByteArray.empty] from rfl, toList_madeCells_one]; simp
  rw [← e]; exact hown

set_option maxHeartbeats 400000 in
theorem scopy_pos (b off len cap : Nat) (ss : List ByteArray) (w : World) (hm : len ≤ 1073741824) (hl : Hid (ss.length = len)) (hB : b < w.heap.size)
    (hc : ∀ i, i < len → w.cell? ⟨b, off + i, none⟩ = some (.string (st ss i))) :
    Calls Trym.prog 18 #[.slice (some ⟨b, off, none⟩) len cap] w fun e w' => e = .returned (.slice (some ⟨w.heap.size, 0, none⟩) len len) ∧ SOwn w' w.heap.size w.heap.size len ss ∧ Below w.heap.size w w' := by
  have q28 : ∀ (w : World) (a : Option Addr) (n c n' c' : Nat), (binOp .eql 28 (.slice a n c) (.slice none n' c')).run Trym.prog w = .ok (.bool a.isNone) w := fun w a n c n' c' => Lib.run_eql_slice_nil w _ _ a n c n' c' Trym.underlying28
  go_enter Trym.func18, Trym.ntmps18
  go_wp2_with (at_make; refine wpList_mks rfl _ _ rfl _ _ len rfl rfl rfl rfl hm ?_; intro w1 hown1 hb1)
  go_loopw [4] (fun i wr => ∃ k : Nat, k ≤ len ∧ i = .int .i64 k ∧ SOwn wr w.heap.size w.heap.size len (ss.take k ++ List.replicate (len - k) ByteArray.empty) ∧ Below w.heap.size w wr) (fun i _ => len - (intOf i).toNat)
  case atStart => exact ⟨0, Nat.zero_le _, rfl, by simpa using hown1, hb1⟩
  case round =>
    clear hown1 hb1
    obtain ⟨k, hk, rfl, hown, hb⟩ := hrel
    by_cases hlt : k < len
    · have hck : wr.cell? ⟨b, off + k, none⟩ = some (.string (st ss k)) := (hb.cell (p := ⟨b, off + k, none⟩) hB).trans (hc k hlt)
      have ho := hown.cell hlt
      have hf := hown.2.frozenAt k
      have HO : Hid (SOwn (wr.setCell ⟨w.heap.size, k, none⟩ (.string (st ss k))) w.heap.size w.heap.size len (ss.take (k + 1) ++ List.replicate (len - (k + 1)) ByteArray.empty)) := by
        have := hown.store k (st ss k)
        rw [sfill_step ss len k hl.out hlt] at this
        exact this
      have HB : Hid (Below w.heap.size w (wr.setCell ⟨w.heap.size, k, none⟩ (.string (st ss k)))) := hb.setCell (p := ⟨w.heap.size, k, none⟩) (Nat.le_refl _) _
      clear hown hb
      go_wp2_with fail
      go_roundw
      case rel => exact ⟨k + 1, by omega, by go_num, HO.out, HB.out⟩
      case measure => simp [intOf]; omega
    · have HO : Hid (SOwn wr w.heap.size w.heap.size len ss) := by
        have e : k = len := by omega
        rw [e] at hown
        have hz : ss.take len = ss := List.take_of_length_le (by rw [hl.out]; omega)
        show SOwn wr w.heap.size w.heap.size len ss
        simpa [hz] using hown
      clear hown
      go_wp2_with fail
      go_ret
      exact ⟨rfl, HO.out, hb⟩

set_option maxHeartbeats 400000 in
theorem scopy_zero (x : Addr) (cap : Nat) (w : World) :
    Calls Trym.prog 18 #[.slice (some x) 0 cap] w fun e w' => e = .returned (.slice (some ⟨w.heap.size, 0, none⟩) 0 0) ∧ Below w.heap.size w w' := by
  have q28 : ∀ (w : World) (a : Option Addr) (n c n' c' : Nat), (binOp .eql 28 (.slice a n c) (.slice none n' c')).run Trym.prog w = .ok (.bool a.isNone) w := fun w a n c n' c' => Lib.run_eql_slice_nil w _ _ a n c n' c' Trym.underlying28
  go_enter Trym.func18, Trym.ntmps18
  go_wp2_with (at_make; refine wpList_mks rfl _ _ rfl _ _ 0 rfl rfl rfl rfl (by omega) ?_; intro w1 hown1 hb1)
  refine wp_loop_rounds 1 ?_
  rw [rounds_succ]
  go_wp2_with fail
  go_ret
  exact ⟨rfl, hb1⟩

set_option maxHeartbeats 400000 in
theorem scopy_nil (w : World) :
    Calls Trym.prog 18 #[.slice none 0 0] w fun e w' => e = .returned (.slice none 0 0) ∧ w = w' := by
  have q28 : ∀ (w : World) (a : Option Addr) (n c n' c' : Nat), (binOp .eql 28 (.slice a n c) (.slice none n' c')).run Trym.prog w = .ok (.bool a.isNone) w := fun w a n c n' c' => Lib.run_eql_slice_nil w _ _ a n c n' c' Trym.underlying28
  go_enter Trym.func18, Trym.ntmps18
  go_wp2_with fail
  go_ret
  exact ⟨rfl, rfl⟩

/-- zzCopyStrings. -/
theorem scopy_any {ao : Option Addr} {len cap : Nat} {ss : List ByteArray} {w : World} (h : SBuf w.heap.size w ao len ss) (hnil : ao = none → len = 0 ∧ cap = 0) (hm : len ≤ 1073741824) :
    Calls Trym.prog 18 #[.slice ao len cap] w fun e w' => ∃ ao', e = .returned (.slice ao' len len) ∧ SBuf w'.heap.size w' ao' len ss ∧ Below w.heap.size w w' := by
  cases ao with
  | none =>
    obtain ⟨rfl, rfl⟩ := hnil rfl
    refine (scopy_nil w).mono fun e w' ⟨he, hw⟩ => ?_
    subst hw
    exact ⟨none, he, h, Below.refl _ _⟩
  | some x =>
    by_cases h0 : len = 0
    · subst h0
      exact (scopy_zero x cap w).mono fun e w' ⟨he, hb⟩ => ⟨_, he, ⟨h.length, fun hp => absurd hp (by omega)⟩, hb⟩
    · obtain ⟨b, off, e, hB, hc⟩ := h.cells (by omega)
      obtain rfl := Option.some.inj e
      exact (scopy_pos b off len cap ss w hm h.length hB hc).mono fun e w' ⟨he, ho, hb⟩ => ⟨_, he, ho.buf, hb⟩

/-- It answered a bool. -/
def SomeBool (e : Ending) : Prop := ∃ t, e = .returned (.bool t)

set_option maxHeartbeats 800000 in
/-- zzBytes: whatever it answers, it turns nothing. -/
theorem sbytes_any {a0 ao a3 : Option Addr} {len0 cap0 len cap len3 cap3 : Nat} {ss : List ByteArray} {i : Int} {w : World} (h : SBuf w.heap.size w ao len ss) (hsz : ∀ k, (st ss k).size ≤ 9223372036854775807) :
    Calls Trym.prog 17 #[.slice a0 len0 cap0, .slice ao len cap, .int .i64 i, .slice a3 len3 cap3] w fun e w' => SomeBool e ∧ w = w' := by
  by_cases c0 : 1048576 < len0
  · go_enter Trym.func17, Trym.ntmps17
    go_wp2
    go_ret
    exact ⟨⟨_, rfl⟩, rfl⟩
  · by_cases c1 : 1048576 < len
    · go_enter Trym.func17, Trym.ntmps17
      go_wp2
      go_ret
      exact ⟨⟨_, rfl⟩, rfl⟩
    · by_cases c2 : 1048576 < len0 + len
      · go_enter Trym.func17, Trym.ntmps17
        go_wp2
        go_ret
        exact ⟨⟨_, rfl⟩, rfl⟩
      · obtain ⟨b, off, hao, hc⟩ : ∃ b off, (0 < len → ao = some ⟨b, off, none⟩) ∧ ∀ i, i < len → w.cell? ⟨b, off + i, none⟩ = some (.string (st ss i)) := by
          by_cases h0 : 0 < len
          · obtain ⟨b, off, e, _, hc⟩ := h.cells h0
            exact ⟨b, off, fun _ => e, hc⟩
          · exact ⟨0, 0, fun hp => absurd hp h0, fun i hi => by omega⟩
        by_cases h0 : 0 < len
        · have e := hao h0
          subst e
          clear hao h
          go_enter Trym.func17, Trym.ntmps17
          go_wp2
          go_loop [9, 10] (fun z k => ∃ (q n : Nat), q ≤ 1048576 ∧ z = .int .i64 q ∧ n ≤ len ∧ k = .int .i64 n) (fun _ k => len - (intOf k).toNat)
          case atStart => exact ⟨len0 + len, 0, by omega, by go_num, by omega, rfl⟩
          case round =>
            obtain ⟨q, n, hq, rfl, hn, rfl⟩ := hrel
            have hz := hsz n
            by_cases hlt : n < len
            · have hck := hc n hlt
              go_wp2
              · go_ret
                exact ⟨⟨_, rfl⟩, rfl⟩
              · go_ret
                exact ⟨⟨_, rfl⟩, rfl⟩
              · have h9 : (q : Int) + ((st ss n).size : Int) ≤ 1048576 := by assumption
                go_round
                case rel => exact ⟨q + (st ss n).size, n + 1, by omega, by go_num, by omega, by go_num⟩
                case measure => simp [intOf]; omega
            · go_wp2
              all_goals
                go_ret
                exact ⟨⟨_, rfl⟩, rfl⟩
        · obtain rfl : len = 0 := by omega
          go_enter Trym.func17, Trym.ntmps17
          go_wp2
          refine wp_loop_rounds 1 ?_
          rw [rounds_succ]
          go_wp2
          all_goals
            go_ret
            exact ⟨⟨_, rfl⟩, rfl⟩
end Go.Proofs.Qxb6001151aMods
