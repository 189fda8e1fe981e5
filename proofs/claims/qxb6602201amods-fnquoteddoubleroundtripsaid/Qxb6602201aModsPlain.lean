/-
  THE PLAIN LAWS of the quoted scalars: lists of numbers, no Go in sight. An encoder 'f' writes each byte as one or two; the text is the quote, the encoded bytes, the quote, whatever follows.
-/
namespace Go.Proofs.Qxb6602201aMods.Plain
set_option linter.unusedSimpArgs false

/-- The byte at place j. -/
def bt (zs : List Int) (j : Nat) : Int := zs.getD j 0

theorem bt_drop (zs : List Int) (j k : Nat) : bt (zs.drop j) k = bt zs (j + k) := by simp [bt, List.getD]
theorem bt_append_right (a b : List Int) (j : Nat) : bt (a ++ b) (a.length + j) = bt b j := by
  have h : (a ++ b)[a.length + j]? = b[j]? := by rw [List.getElem?_append_right (by omega)]; congr 1; omega
  simp only [bt, List.getD, h]
theorem bt_append_left (a b : List Int) (j : Nat) (h : j < a.length) : bt (a ++ b) j = bt a j := by
  simp only [bt, List.getD, List.getElem?_append_left h]
theorem take_succ_bt (l : List Int) (k : Nat) (h : k < l.length) : l.take (k + 1) = l.take k ++ [bt l k] := by
  rw [List.take_succ_eq_append_getElem h]
  simp [bt, List.getD, h]

/-- Every byte as f writes it. -/
def enc (f : Int → List Int) : List Int → List Int
  | [] => []
  | c :: t => f c ++ enc f t
theorem enc_append (f : Int → List Int) (a b : List Int) : enc f (a ++ b) = enc f a ++ enc f b := by
  induction a with
  | nil => rfl
  | cons c t ih => simp [enc, ih]

/-- The length of what the first k bytes are written as. -/
def D (f : Int → List Int) (vs : List Int) (k : Nat) : Nat := (enc f (vs.take k)).length
theorem enc_step (f : Int → List Int) (vs : List Int) (k : Nat) (h : k < vs.length) : enc f (vs.take (k + 1)) = enc f (vs.take k) ++ f (bt vs k) := by
  rw [take_succ_bt vs k h, enc_append]; simp [enc]
theorem D_step (f : Int → List Int) (vs : List Int) (k : Nat) (h : k < vs.length) : D f vs (k + 1) = D f vs k + (f (bt vs k)).length := by
  unfold D; rw [enc_step f vs k h, List.length_append]
theorem D_all (f : Int → List Int) (vs : List Int) (k : Nat) (h : vs.length ≤ k) : D f vs k = (enc f vs).length := by
  unfold D; rw [List.take_of_length_le h]
theorem D_le (f : Int → List Int) (hf : ∀ c, (f c).length ≤ 2) (vs : List Int) (k : Nat) : D f vs k ≤ 2 * vs.length := by
  have gen : ∀ l : List Int, (enc f l).length ≤ 2 * l.length := by
    intro l
    induction l with
    | nil => simp [enc]
    | cons c t ih => have := hf c; simp only [enc, List.length_append, List.length_cons]; omega
  have := gen (vs.take k)
  have h2 : (vs.take k).length ≤ vs.length := List.length_take_le' _ _
  unfold D; omega

/-- The whole text. -/
def text (f : Int → List Int) (q : Int) (vs rest : List Int) : List Int := q :: (enc f vs ++ (q :: rest))
theorem text_length (f : Int → List Int) (q : Int) (vs rest : List Int) : (text f q vs rest).length = (enc f vs).length + 2 + rest.length := by
  simp [text]; omega
theorem text_at (f : Int → List Int) (q : Int) (vs rest : List Int) (k j : Nat) (hk : k < vs.length) (hj : j < (f (bt vs k)).length) : bt (text f q vs rest) (1 + D f vs k + j) = bt (f (bt vs k)) j := by
  have e : enc f vs = enc f (vs.take (k + 1)) ++ enc f (vs.drop (k + 1)) := by rw [← enc_append, List.take_append_drop]
  have e2 : text f q vs rest = (q :: enc f (vs.take k)) ++ (f (bt vs k) ++ (enc f (vs.drop (k + 1)) ++ q :: rest)) := by
    rw [text, e, enc_step f vs k hk]; simp
  have l : (q :: enc f (vs.take k)).length = 1 + D f vs k := by simp [D]; omega
  rw [e2, ← l, bt_append_right, bt_append_left _ _ _ hj]
theorem text_quote (f : Int → List Int) (q : Int) (vs rest : List Int) (k : Nat) (hk : vs.length ≤ k) : bt (text f q vs rest) (1 + D f vs k) = q := by
  have l : (q :: enc f vs).length = 1 + D f vs k := by rw [D_all f vs k hk]; simp; omega
  have e2 : text f q vs rest = (q :: enc f vs) ++ (q :: rest) := by simp [text]
  rw [e2, ← l]
  have := bt_append_right (q :: enc f vs) (q :: rest) 0
  rw [Nat.add_zero] at this
  rw [this]; rfl
theorem text_rest (f : Int → List Int) (q : Int) (vs rest : List Int) (k : Nat) (hk : vs.length ≤ k) : bt (text f q vs rest) (1 + D f vs k + 1) = bt rest 0 := by
  have l : (q :: (enc f vs ++ [q])).length = 1 + D f vs k + 1 := by rw [D_all f vs k hk]; simp; omega
  have e2 : text f q vs rest = (q :: (enc f vs ++ [q])) ++ rest := by simp [text]
  rw [e2, ← l]
  have := bt_append_right (q :: (enc f vs ++ [q])) rest 0
  rw [Nat.add_zero] at this
  exact this
theorem text_mono (f : Int → List Int) (vs : List Int) (k : Nat) : D f vs k ≤ (enc f vs).length := by
  have e : enc f vs = enc f (vs.take k) ++ enc f (vs.drop k) := by rw [← enc_append, List.take_append_drop]
  unfold D; rw [e, List.length_append]; omega

/-- What has been read and not yet taken over. -/
def pend (t : List Int) (s p : Nat) : List Int := (t.drop s).take (p - s)
theorem pend_length (t : List Int) (s p : Nat) (h : p ≤ t.length) : (pend t s p).length = p - s := by simp [pend]; omega
theorem pend_self (t : List Int) (s : Nat) : pend t s s = [] := by simp [pend]
theorem pend_step (t : List Int) (s p : Nat) (hs : s ≤ p) (hp : p < t.length) : pend t s (p + 1) = pend t s p ++ [bt t p] := by
  have h : p - s < (t.drop s).length := by simp; omega
  unfold pend
  rw [show p + 1 - s = (p - s) + 1 by omega, take_succ_bt _ _ h, bt_drop, show s + (p - s) = p by omega]

/-- A single-quoted scalar's encoder: each quote doubled. -/
def fS (c : Int) : List Int := if c = 39 then [39, 39] else [c]

/-- The letter that stands for c behind a backslash; 0: c is written raw. -/
def letter (c : Int) : Int :=
  if c = 0 then 48 else if c = 7 then 97 else if c = 8 then 98 else if c = 9 then 116 else if c = 10 then 110 else if c = 11 then 118 else if c = 12 then 102 else if c = 13 then 114 else if c = 27 then 101 else if c = 34 then 34 else if c = 92 then 92 else 0
/-- A double-quoted scalar's encoder. -/
def fD (c : Int) : List Int := if letter c = 0 then [c] else [92, letter c]

/-- What a letter behind a backslash stands for. -/
def unletter (c : Int) : Option Int :=
  if c = 48 then some 0 else if c = 97 then some 7 else if c = 98 then some 8 else if c = 116 then some 9 else if c = 110 then some 10 else if c = 118 then some 11 else if c = 102 then some 12 else if c = 114 then some 13 else if c = 101 then some 27
  else if c = 32 ∨ c = 34 ∨ c = 39 ∨ c = 92 then some c else none

theorem unletter_letter (c : Int) (h : letter c ≠ 0) : unletter (letter c) = some c := by
  unfold letter at h ⊢
  by_cases h0 : c = 0
  · subst h0; rfl
  by_cases h1 : c = 7
  · subst h1; rfl
  by_cases h2 : c = 8
  · subst h2; rfl
  by_cases h3 : c = 9
  · subst h3; rfl
  by_cases h4 : c = 10
  · subst h4; rfl
  by_cases h5 : c = 11
  · subst h5; rfl
  by_cases h6 : c = 12
  · subst h6; rfl
  by_cases h7 : c = 13
  · subst h7; rfl
  by_cases h8 : c = 27
  · subst h8; rfl
  by_cases h9 : c = 34
  · subst h9; rfl
  by_cases h10 : c = 92
  · subst h10; rfl
  simp [h0, h1, h2, h3, h4, h5, h6, h7, h8, h9, h10] at h
theorem letter_raw (c : Int) (h : letter c = 0) : c ≠ 34 ∧ c ≠ 92 := by
  constructor
  · rintro rfl; simp [letter] at h
  · rintro rfl; simp [letter] at h

theorem fS_le (c : Int) : (fS c).length ≤ 2 := by unfold fS; split <;> simp
theorem fD_le (c : Int) : (fD c).length ≤ 2 := by unfold fD; split <;> simp

end Go.Proofs.Qxb6602201aMods.Plain
