/-
  BYTE SLICES IN MEMORY, MORE: an append onto nil; the parts of a slice.
-/
import Derived.Test.Qxb6602201aModsMem
namespace Go.Proofs.Qxb6602201aMods
open Go.RowKit Plain

section
variable {P : Program}

/-- 'append(nil, x...)', x not empty. -/
theorem wpList_app0 {w : World} {ops : Array Oper} {rest : List Oper} {o : Oper} {a : Act} {Q : Exit → Act → World → Prop}
    (hgd : o.guard = none) (s x : Operand) (ho : o.op = .call { callee := .builtin .append, args := #[s, x], argTypes := #[22, 22] })
    (h22 : P.underlying 22 = some (.slice 5)) (h5 : (P.info? 5).map (fun i => (i.zero, i.size, i.bytes)) = some (some (.int .u8 0), 1, 1))
    (base : Nat) (hbase : base ≤ w.heap.size) (hs : a.eval s = .slice none 0 0)
    (ao : Option Addr) (m c : Nat) (ys : List Int) (hx : a.eval x = .slice ao m c) (B : Nat) (hb : Buf B w ao m c ys) (hm : 0 < m) (hbd : m ≤ 1099511627776)
    (w0 : World) (hbel : Below base w0 w)
    (h : ∀ g' cap' w', Own w' base g' m cap' ys → Below base w0 w' → wpList P ops Q rest (a.put o.dst (.slice (some ⟨g', 0, none⟩) m cap')) w') : wpList P ops Q (o :: rest) a w := by
  obtain ⟨i, hi, hz0, hz1, hz2⟩ := info_parts h5
  obtain ⟨b, off, rfl, _, hc⟩ := hb.cells hm
  have hnews : ∀ j u, (ys.map (Value.int .u8))[j]? = some u → w.cell? ((⟨b, off, none⟩ : Addr).add j) = some u := by
    intro j u hu
    have hj : j < ys.length := by have := (List.getElem?_eq_some_iff.1 hu).1; simpa using this
    have := hc j (by have := hb.length; omega)
    rw [Addr.add_lit, this]
    simpa [bt, List.getD, hj] using hu
  refine wpList_append_own w hgd s x 22 ho base 5 i (.int .u8 0) 1 1 h22 hi hz0 hz1 hz2 rfl (by decide) _ 0 [] hs (World.ownsRow_nil _ _ _ _) ⟨b, off, none⟩ m c (ys.map (Value.int .u8)) hx (by simp [hb.length]) hnews (ints_oneCell _ _) (by unfold maxLen; omega) (by omega) hbase ?_
  intro v' w' hown' hgr hnil
  simp only [Nat.zero_add, List.nil_append] at hown'
  have hex : ∃ g' cap', v' = .slice (some ⟨g', 0, none⟩) m cap' := by
    rcases hown'.2 with ⟨e, _⟩ | ⟨g', cap', cur, e, _⟩
    · exact absurd (hnil.1 e).2 (by omega)
    · exact ⟨g', cap', e⟩
  obtain ⟨g', cap', rfl⟩ := hex
  refine h g' cap' w' ⟨hb.length, hown'⟩ (hbel.grown hgr hbase ?_)
  intro k hk
  simp [Value.ownBlock] at hk

/-- 'append(nil, x...)', x empty but not nil. -/
theorem wpList_app00 {w : World} {ops : Array Oper} {rest : List Oper} {o : Oper} {a : Act} {Q : Exit → Act → World → Prop}
    (hgd : o.guard = none) (s x : Operand) (ho : o.op = .call { callee := .builtin .append, args := #[s, x], argTypes := #[22, 22] })
    (h22 : P.underlying 22 = some (.slice 5)) (h5 : (P.info? 5).map (fun i => (i.zero, i.size, i.bytes)) = some (some (.int .u8 0), 1, 1))
    (base : Nat) (hbase : base ≤ w.heap.size) (hs : a.eval s = .slice none 0 0)
    (ad : Addr) (m c : Nat) (hx : a.eval x = .slice (some ad) m c) (hm : m = 0) (w0 : World) (hbel : Below base w0 w)
    (h : ∀ w', Below base w0 w' → wpList P ops Q rest (a.put o.dst (.slice none 0 0)) w') : wpList P ops Q (o :: rest) a w := by
  subst hm
  obtain ⟨i, hi, hz0, hz1, hz2⟩ := info_parts h5
  refine wpList_append_own w hgd s x 22 ho base 5 i (.int .u8 0) 1 1 h22 hi hz0 hz1 hz2 rfl (by decide) _ 0 [] hs (World.ownsRow_nil _ _ _ _) ad 0 c [] hx rfl (fun j u hu => by simp at hu) (fun u hu => by simp at hu) (by unfold maxLen; omega) (by omega) hbase ?_
  intro v' w' hown' hgr hnil
  have e : v' = .slice none 0 0 := hnil.2 ⟨rfl, rfl⟩
  subst e
  exact h w' (hbel.grown hgr hbase (fun k hk => by simp [Value.ownBlock] at hk))
end

/-- A part of a slice. -/
theorem Buf.part {B : Nat} {w : World} {b off len cap : Nat} {zs : List Int} (h : Buf B w (some ⟨b, off, none⟩) len cap zs) {s p : Nat} (hs : s ≤ p) (hp : p ≤ len) : Buf B w (some ⟨b, off + s, none⟩) (p - s) (cap - s) (pend zs s p) := by
  have hl := h.length
  have hr := h.room
  refine ⟨pend_length zs s p (by omega), by omega, fun hn => by simp at hn, fun hpos => ?_⟩
  obtain ⟨b', off', e, hB, hc⟩ := h.cells (by omega)
  simp only [Option.some.injEq, Addr.mk.injEq, and_true] at e
  obtain ⟨rfl, rfl⟩ := e
  refine ⟨b, off + s, rfl, hB, fun k hk => ?_⟩
  have e2 : bt (pend zs s p) k = bt zs (s + k) := by unfold pend; rw [bt_take hk, bt_drop]
  rw [e2, Nat.add_assoc]
  exact hc (s + k) (by omega)

end Go.Proofs.Qxb6602201aMods
