/-
  BYTE SLICES IN MEMORY, whatever the program: 'Buf' (a slice of bytes that can be read), 'Own' (one that the call made and may append to); make and append in these words.
-/
import Derived.WalkKit
import Derived.WalkSpells
import Derived.WalkLawsBesides
import Derived.Laws.AppendOwnNone
import Derived.Test.Qxb6001151aModsPlain2
namespace Go.Proofs.Qxb6001151aMods
open Go.RowKit Plain

/-- The slice '(ao, len, cap)' reads as the bytes zs; where it has any they lie in a block below B. -/
structure Buf (B : Nat) (w : World) (ao : Option Addr) (len cap : Nat) (zs : List Int) : Prop where
  length : zs.length = len
  room : len ≤ cap
  nil : ao = none → len = 0 ∧ cap = 0
  cells : 0 < len → ∃ b off, ao = some ⟨b, off, none⟩ ∧ b < B ∧ ∀ i, i < len → w.cell? ⟨b, off + i, none⟩ = some (.int .u8 (bt zs i))

theorem Buf.below {B : Nat} {w w' : World} {ao : Option Addr} {len cap : Nat} {zs : List Int} (h : Buf B w ao len cap zs) (hb : Below B w w') : Buf B w' ao len cap zs :=
  ⟨h.length, h.room, h.nil, fun hp => by
    obtain ⟨b, off, e, hB, hc⟩ := h.cells hp
    exact ⟨b, off, e, hB, fun i hi => (hb.cell (p := ⟨b, off + i, none⟩) hB).trans (hc i hi)⟩⟩

theorem Buf.mono {B B' : Nat} {w : World} {ao : Option Addr} {len cap : Nat} {zs : List Int} (h : Buf B w ao len cap zs) (hb : B ≤ B') : Buf B' w ao len cap zs :=
  ⟨h.length, h.room, h.nil, fun hp => by
    obtain ⟨b, off, e, hB, hc⟩ := h.cells hp
    exact ⟨b, off, e, by omega, hc⟩⟩

theorem bt_take {zs : List Int} {r i : Nat} (h : i < r) : bt (zs.take r) i = bt zs i := by simp [bt, List.getD, h]

theorem Buf.take {B : Nat} {w : World} {ao : Option Addr} {len cap : Nat} {zs : List Int} (h : Buf B w ao len cap zs) {r : Nat} (hr : r ≤ len) : Buf B w ao r cap (zs.take r) :=
  ⟨by have := h.length; simp; omega, Nat.le_trans hr h.room, fun e => by have := h.nil e; omega, fun hp => by
    obtain ⟨b, off, e, hB, hc⟩ := h.cells (by omega)
    exact ⟨b, off, e, hB, fun i hi => by rw [bt_take hi]; exact hc i (by omega)⟩⟩

/-- What a row that came in reads as. -/
theorem buf_of_row {w : World} {a : Option Addr} {len cap : Nat} {zs : List Int}
    (h : (a = none ∧ len = 0 ∧ cap = 0 ∧ zs = []) ∨
      ∃ x, a = some x ∧ len ≤ cap ∧ cap ≤ maxLen ∧ zs.length = cap ∧ (∀ i, i < zs.length → w.cell? (x.add i) = some (.int .u8 (zs.getD i 0))) ∧ ∀ n ∈ zs, (Lit.int .u8 n).wf = true) :
    Buf w.heap.size w a len cap (zs.take len) := by
  rcases h with ⟨rfl, rfl, rfl, rfl⟩ | ⟨x, rfl, hl, hm, hz, hcell, _⟩
  · exact ⟨rfl, Nat.le_refl _, fun _ => ⟨rfl, rfl⟩, fun h => absurd h (by omega)⟩
  · refine ⟨by simp; omega, hl, fun h => by simp at h, fun hp => ?_⟩
    obtain ⟨b, off, spot⟩ := x
    have hc0 := hcell 0 (by omega)
    have hspot : spot = none := by simpa [Addr.add] using World.cell?_spot hc0
    subst hspot
    refine ⟨b, off, rfl, ?_, fun i hi => ?_⟩
    · have := World.block_lt_of_cell? _ _ hc0
      simpa [Addr.add] using this
    · have := hcell i (by omega)
      rw [Addr.add_lit] at this
      rw [bt_take hi]
      exact this

/-- The call's own row of bytes at the head of block g, from block number base on. -/
def Own (w : World) (base g n cap : Nat) (zs : List Int) : Prop :=
  zs.length = n ∧ w.ownsRow base 5 1 (.slice (some ⟨g, 0, none⟩) n cap) n (zs.map (Value.int .u8))

theorem Own.lt {w : World} {base g n cap : Nat} {zs : List Int} (h : Own w base g n cap zs) : base ≤ g ∧ g < w.heap.size := h.2.lt g rfl
theorem Own.room {w : World} {base g n cap : Nat} {zs : List Int} (h : Own w base g n cap zs) : n ≤ cap := by
  rcases h.2.2 with ⟨e, _⟩ | ⟨g', cap', cur, e, _, _, hnc, _⟩
  · cases e
  · simp only [Value.slice.injEq] at e
    omega

theorem Own.alloc {w : World} {base g n cap : Nat} {zs : List Int} (h : Own w base g n cap zs) (o : Obj) : Own (w.alloc o) base g n cap zs := ⟨h.1, h.2.alloc o⟩

theorem Own.below {w w' : World} {base g n cap : Nat} {zs : List Int} (h : Own w base g n cap zs) {B : Nat} (hb : Below B w w') (hg : g < B) : Own w' base g n cap zs := by
  obtain ⟨h0, h1, h2⟩ := h
  refine ⟨h0, h1, ?_⟩
  rcases h2 with ⟨e, _⟩ | ⟨g', cap', cur, e, hbg, hh, r⟩
  · cases e
  · refine .inr ⟨g', cap', cur, e, hbg, ?_, r⟩
    have eg : g' = g := by simp only [Value.slice.injEq, Option.some.injEq, Addr.mk.injEq] at e; exact e.1.1.symm
    rw [hb.block g' (by omega)]; exact hh

theorem Own.cell {w : World} {base g n cap : Nat} {zs : List Int} (h : Own w base g n cap zs) {i : Nat} (hi : i < n) : w.cell? ⟨g, i, none⟩ = some (.int .u8 (bt zs i)) := by
  have e := h.2.cellAt i (by omega)
  have hl := h.1
  have hi' : i < zs.length := by omega
  rw [e]
  simp [bt, List.getD, hi']

theorem Own.buf {w : World} {base g n cap : Nat} {zs : List Int} (h : Own w base g n cap zs) : Buf w.heap.size w (some ⟨g, 0, none⟩) n cap zs :=
  ⟨h.1, h.room, fun e => by simp at e, fun _ => ⟨g, 0, rfl, h.lt.2, fun i hi => by rw [Nat.zero_add]; exact h.cell hi⟩⟩

/-- A literal of one byte, laid for an append. -/
theorem buf_lit (w : World) (ys : List Int) (m : Nat) (hm : ys.length = m) (cs : Array Value) (hcs : cs.toList = ys.map (Value.int .u8)) (fz : Nat × Nat) :
    Buf (w.heap.size + 1) (w.alloc (.cells cs 5 fz)) (some ⟨w.heap.size, 0, none⟩) m m ys :=
  ⟨hm, Nat.le_refl _, fun e => by simp at e, fun _ => ⟨w.heap.size, 0, rfl, by omega, fun i hi => by
    have hh : (w.alloc (.cells cs 5 fz)).heap[w.heap.size]? = some (.cells cs 5 fz) := heap_alloc_new w _
    rw [Nat.zero_add, cell_of_row _ w.heap.size i cs 5 fz hh]
    have hi' : i < ys.length := by omega
    rw [← Array.getElem?_toList, hcs]
    simp [bt, List.getD, hi']⟩⟩

theorem buf_lit1 (w : World) (c : Int) : Buf (w.heap.size + 1) (w.alloc (.cells #[.int .u8 c] 5)) (some ⟨w.heap.size, 0, none⟩) 1 1 [c] := buf_lit w [c] 1 rfl _ rfl _
theorem buf_lit2 (w : World) (c d : Int) : Buf (w.heap.size + 1) (w.alloc (.cells #[.int .u8 c, .int .u8 d] 5)) (some ⟨w.heap.size, 0, none⟩) 2 2 [c, d] := buf_lit w [c, d] 2 rfl _ rfl _

section
variable {P : Program}

/-- 'make([]byte, 0, C)'. -/
theorem wpList_mk0 {w : World} {ops : Array Oper} {rest : List Oper} {o : Oper} {a : Act} {Q : Exit → Act → World → Prop}
    (hg : o.guard = none) (l c : Operand) (hop : o.op = Op.makeSlice 22 l c) (h22 : P.underlying 22 = some (.slice 5)) (h5 : (P.info? 5).map (fun i => (i.zero, i.size, i.bytes)) = some (some (.int .u8 0), 1, 1))
    (C : Int) (n : Nat) (hl : a.eval l = .int .i64 0) (hc : a.eval c = .int .i64 C) (hC : C = (n : Int)) (hn : n ≤ 1099511627776)
    (hK : ∀ w', Own w' w.heap.size w.heap.size 0 n [] → Below w.heap.size w w' → wpList P ops Q rest (a.put o.dst (.slice (some ⟨w.heap.size, 0, none⟩) 0 n)) w') :
    wpList P ops Q (o :: rest) a w := by
  obtain ⟨i, hi, hz0, hz1, hz2⟩ := info_parts h5
  refine wpList_make_own w hg l c 22 hop w.heap.size 5 i (.int .u8 0) 1 h22 hi hz0 hz1 .i64 .i64 C n hl hc hC (by rw [hz2]; omega) (by unfold maxLen; omega) (Nat.le_refl _) ?_
  intro w' hown hgr
  exact hK w' ⟨rfl, hown⟩ ((Below.refl _ _).grown hgr (Nat.le_refl _) (fun k hk => by cases hk))

/-- 'make([]byte, n)'. -/
theorem wpList_mkn {w : World} {ops : Array Oper} {rest : List Oper} {o : Oper} {a : Act} {Q : Exit → Act → World → Prop}
    (hg : o.guard = none) (l c : Operand) (hop : o.op = Op.makeSlice 22 l c) (h22 : P.underlying 22 = some (.slice 5)) (h5 : (P.info? 5).map (fun i => (i.zero, i.size, i.bytes)) = some (some (.int .u8 0), 1, 1))
    (L C : Int) (n : Nat) (hl : a.eval l = .int .i64 L) (hc : a.eval c = .int .i64 C) (hL : L = (n : Int)) (hC : C = (n : Int)) (hn : n ≤ 1099511627776)
    (hK : ∀ w', Own w' w.heap.size w.heap.size n n (List.replicate n 0) → Below w.heap.size w w' → wpList P ops Q rest (a.put o.dst (.slice (some ⟨w.heap.size, 0, none⟩) n n)) w') :
    wpList P ops Q (o :: rest) a w := by
  obtain ⟨i, hi, hz0, hz1, hz2⟩ := info_parts h5
  refine wpList_make_full w hg l c 22 hop w.heap.size 5 i (.int .u8 0) 1 h22 hi hz0 hz1 .i64 .i64 L C n hl hc hL hC (by rw [hz2]; omega) (by unfold maxLen; omega) (Nat.le_refl _) ?_
  intro w' hown hgr
  refine hK w' ⟨by simp, ?_⟩ ((Below.refl _ _).grown hgr (Nat.le_refl _) (fun k hk => by cases hk))
  have e : (madeCells (Value.int .u8 0).cells (n * 1)).toList = (List.replicate n (0 : Int)).map (Value.int .u8) := by
    rw [show (Value.int .u8 0).cells = #[Value.int .u8 0] from rfl, toList_madeCells_one]; simp
  rw [← e]; exact hown

/-- 'append(s, x...)', s the call's own, x whatever can be read. -/
theorem wpList_app {w : World} {ops : Array Oper} {rest : List Oper} {o : Oper} {a : Act} {Q : Exit → Act → World → Prop}
    (hgd : o.guard = none) (s x : Operand) (ho : o.op = .call { callee := .builtin .append, args := #[s, x], argTypes := #[22, 22] })
    (h22 : P.underlying 22 = some (.slice 5)) (h5 : (P.info? 5).map (fun i => (i.zero, i.size, i.bytes)) = some (some (.int .u8 0), 1, 1))
    (base g n cap : Nat) (zs : List Int) (hs : a.eval s = .slice (some ⟨g, 0, none⟩) n cap) (hown : Own w base g n cap zs)
    (ao : Option Addr) (m c : Nat) (ys : List Int) (hx : a.eval x = .slice ao m c) (B : Nat) (hb : Buf B w ao m c ys) (hbd : n + m ≤ 1099511627776)
    (w0 : World) (hbel : Below base w0 w)
    (h : ∀ g' cap' w', Own w' base g' (n + m) cap' (zs ++ ys) → Below base w0 w' → wpList P ops Q rest (a.put o.dst (.slice (some ⟨g', 0, none⟩) (n + m) cap')) w') : wpList P ops Q (o :: rest) a w := by
  obtain ⟨i, hi, hz0, hz1, hz2⟩ := info_parts h5
  have hbase : base ≤ w.heap.size := by have := hown.lt; omega
  have hlen : (zs ++ ys).length = n + m := by rw [List.length_append, hown.1, hb.length]
  cases ao with
  | none =>
    obtain ⟨rfl, rfl⟩ := hb.nil rfl
    have hy : ys = [] := List.eq_nil_of_length_eq_zero hb.length
    subst hy
    refine wpList_append_own_none hgd s x 22 ho base 5 i 1 h22 hi _ n _ hs hown.2 hx ?_
    simpa using h g cap w (by simpa using hown) hbel
  | some ad =>
    have hnews : ∀ j u, (ys.map (Value.int .u8))[j]? = some u → w.cell? (ad.add j) = some u := by
      intro j u hu
      have hj : j < ys.length := by have := (List.getElem?_eq_some_iff.1 hu).1; simpa using this
      obtain ⟨b, off, e, _, hc⟩ := hb.cells (by have := hb.length; omega)
      obtain rfl := Option.some.inj e
      have := hc j (by have := hb.length; omega)
      rw [Addr.add_lit, this]
      simpa [bt, List.getD, hj] using hu
    refine wpList_append_own w hgd s x 22 ho base 5 i (.int .u8 0) 1 1 h22 hi hz0 hz1 hz2 rfl (by decide) _ n _ hs hown.2 ad m c (ys.map (Value.int .u8)) hx (by simp [hb.length]) hnews (ints_oneCell _ _) (by unfold maxLen; omega) (by omega) hbase ?_
    intro v' w' hown' hgr hnil
    have hex : ∃ g' cap', v' = .slice (some ⟨g', 0, none⟩) (n + m) cap' := by
      rcases hown'.2 with ⟨e, _⟩ | ⟨g', cap', cur, e, _⟩
      · exact absurd (hnil.1 e).1 (by simp)
      · exact ⟨g', cap', e⟩
    obtain ⟨g', cap', rfl⟩ := hex
    refine h g' cap' w' ⟨hlen, by rw [List.map_append]; exact hown'⟩ (hbel.grown hgr hbase ?_)
    intro k hk
    simp only [Value.ownBlock, Option.some.injEq] at hk
    subst hk
    exact hown.lt.1
end

end Go.Proofs.Qxb6001151aMods
