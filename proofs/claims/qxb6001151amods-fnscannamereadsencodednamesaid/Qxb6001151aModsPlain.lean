/-
  THE PLAIN LAWS of the peeking functions (skipString, skipValue, scanName, the encoder): lists of numbers, no Go in sight.
-/
namespace Go.Proofs.Qxb6001151aMods.Plain
set_option linter.unusedSimpArgs false

/-- From just past an opening quote: how many bytes to just past the closing one. 'true': the next byte is escaped. -/
def str : Bool → List Int → Option Nat
  | _, [] => none
  | true, _ :: t => (str false t).map (· + 1)
  | false, c :: t => if c = 34 then some 1 else if c = 92 then (str true t).map (· + 1) else (str false t).map (· + 1)

/-- The scanner of brackets at depth d. Mode 0: between tokens; 1: inside a string; 2: behind a backslash in it. -/
def scan : Nat → Int → List Int → Option Nat
  | _, _, [] => none
  | 0, d, c :: t =>
    if c = 34 then (scan 1 d t).map (· + 1)
    else if c = 123 ∨ c = 91 then (scan 0 (d + 1) t).map (· + 1)
    else if c = 125 ∨ c = 93 then (if d = 1 then some 1 else (scan 0 (d - 1) t).map (· + 1))
    else (scan 0 d t).map (· + 1)
  | 1, d, c :: t => if c = 34 then (scan 0 d t).map (· + 1) else if c = 92 then (scan 2 d t).map (· + 1) else (scan 1 d t).map (· + 1)
  | _ + 2, d, _ :: t => (scan 1 d t).map (· + 1)

/-- The bytes that end a number, true, false or null. -/
def endsB (c : Int) : Bool := decide (c = 44 ∨ c = 125 ∨ c = 93 ∨ c = 32 ∨ c = 9 ∨ c = 13 ∨ c = 10)
/-- White space. -/
def spcB (c : Int) : Bool := decide (c = 32 ∨ c = 9 ∨ c = 13 ∨ c = 10)

/-- How many bytes at the head answer p. -/
def run (p : Int → Bool) : List Int → Nat
  | [] => 0
  | c :: t => if p c then run p t + 1 else 0

/-- The length of the value at the head. -/
def val (l : List Int) : Option Nat :=
  match l with
  | [] => none
  | c :: t =>
    if c = 34 then (str false t).map (· + 1)
    else if c = 123 ∨ c = 91 then scan 0 0 (c :: t)
    else if run (fun c => !endsB c) (c :: t) = 0 then none else some (run (fun c => !endsB c) (c :: t))

/-- A length at place j, as a place; -1 for none. -/
def pos (f : List Int → Option Nat) (zs : List Int) (j : Nat) : Int :=
  match f (zs.drop j) with
  | none => -1
  | some n => ((j + n : Nat) : Int)

/-- skipString behind its opening quote. -/
def S (zs : List Int) (j : Nat) : Int := pos (str false) zs j
/-- skipValue's loop over brackets. -/
def B (zs : List Int) (d : Int) (j : Nat) : Int := pos (scan 0 d) zs j
/-- skipValue. -/
def V (zs : List Int) (j : Nat) : Int := pos val zs j
/-- Where a run of p from j on ends. -/
def R (p : Int → Bool) (zs : List Int) (j : Nat) : Nat := j + run p (zs.drop j)

/-- The byte at place j. -/
def bt (zs : List Int) (j : Nat) : Int := zs.getD j 0

/-! ### Steps -/
theorem drop_cons {zs : List Int} {j : Nat} (h : j < zs.length) : zs.drop j = bt zs j :: zs.drop (j + 1) := by
  rw [List.drop_eq_getElem_cons h]
  simp [bt, List.getD, h]

theorem pos_end {f : List Int → Option Nat} (hf : f [] = none) {zs : List Int} {j : Nat} (h : zs.length ≤ j) : pos f zs j = -1 := by
  unfold pos; rw [List.drop_eq_nil_of_le h, hf]

theorem pos_map {f g : List Int → Option Nat} {zs : List Int} {j : Nat} (_ : j < zs.length) (e : f (zs.drop j) = (g (zs.drop (j + 1))).map (· + 1)) : pos f zs j = pos g zs (j + 1) := by
  unfold pos; rw [e]
  cases g (zs.drop (j + 1)) with
  | none => rfl
  | some n => simp only [Option.map_some]; omega

theorem S_end {zs : List Int} {j : Nat} (h : zs.length ≤ j) : S zs j = -1 := pos_end rfl h

theorem S_quote {zs : List Int} {j : Nat} (h : j < zs.length) (c : bt zs j = 34) : S zs j = (j : Int) + 1 := by
  unfold S pos; rw [drop_cons h, c]; simp [str]

theorem S_other {zs : List Int} {j : Nat} (h : j < zs.length) (c : bt zs j ≠ 34) (c' : bt zs j ≠ 92) : S zs j = S zs (j + 1) :=
  pos_map h (by rw [drop_cons h]; simp [str, c, c'])

theorem S_esc {zs : List Int} {j : Nat} (h : j < zs.length) (c : bt zs j = 92) : S zs j = S zs (j + 2) := by
  have e1 : S zs j = pos (str true) zs (j + 1) := pos_map h (by rw [drop_cons h, c]; simp [str])
  rw [e1]
  by_cases h2 : j + 1 < zs.length
  · exact pos_map h2 (by rw [drop_cons h2]; simp [str])
  · rw [S_end (by omega), pos_end rfl (by omega)]

theorem str_le (e : Bool) (l : List Int) (n : Nat) (h : str e l = some n) : 1 ≤ n ∧ n ≤ l.length := by
  induction l generalizing e n with
  | nil => cases e <;> simp [str] at h
  | cons c t ih =>
    have key : ∀ e', (str e' t).map (· + 1) = some n → 1 ≤ n ∧ n ≤ (c :: t).length := by
      intro e' h'
      rw [Option.map_eq_some_iff] at h'
      obtain ⟨m, hm, rfl⟩ := h'
      have := ih e' m hm
      simp; omega
    cases e with
    | true => exact key false (by simpa [str] using h)
    | false =>
      simp only [str] at h
      split at h
      · simp at h; subst h; simp
      · split at h
        · exact key _ h
        · exact key _ h

theorem S_range (zs : List Int) (j : Nat) : S zs j = -1 ∨ ((j : Int) + 1 ≤ S zs j ∧ S zs j ≤ (zs.length : Int)) := by
  unfold S pos
  cases h : str false (zs.drop j) with
  | none => left; rfl
  | some n =>
    right
    have := str_le _ _ _ h
    simp only [List.length_drop] at this
    simp only; omega

theorem B_end {zs : List Int} {d : Int} {j : Nat} (h : zs.length ≤ j) : B zs d j = -1 := pos_end rfl h

theorem scan_str (d : Int) (l : List Int) : ∀ e : Bool, scan (if e then 2 else 1) d l = (str e l).bind fun n => (scan 0 d (l.drop n)).map (· + n) := by
  induction l with
  | nil => intro e; cases e <;> simp [scan, str]
  | cons c t ih =>
    have key : ∀ e' : Bool, (scan (if e' then 2 else 1) d t).map (· + 1) = ((str e' t).map (· + 1)).bind fun n => (scan 0 d ((c :: t).drop n)).map (· + n) := by
      intro e'
      rw [ih e']
      cases str e' t with
      | none => rfl
      | some n =>
        simp only [Option.bind_some, Option.map_some, Option.map_map, List.drop_succ_cons]
        congr 1
    intro e
    cases e with
    | true => simpa [scan, str] using key false
    | false =>
      have k1 := key true
      have k2 := key false
      simp only [if_true] at k1
      simp only [Bool.false_eq_true, if_false] at k2 ⊢
      by_cases h1 : c = 34
      · subst h1; simp [scan, str]
      · by_cases h2 : c = 92
        · subst h2; simpa [scan, str] using k1
        · simpa [scan, str, h1, h2] using k2

theorem B_quote {zs : List Int} {d : Int} {j : Nat} (h : j < zs.length) (c : bt zs j = 34) (n : S zs (j + 1) = -1) : B zs d j = -1 := by
  have e : scan 0 d (zs.drop j) = (scan 1 d (zs.drop (j + 1))).map (· + 1) := by rw [drop_cons h, c]; simp [scan]
  have s := scan_str d (zs.drop (j + 1)) false
  simp only [Bool.false_eq_true, if_false] at s
  unfold S pos at n
  unfold B pos
  rw [e, s]
  cases hs : str false (zs.drop (j + 1)) with
  | none => rfl
  | some m => rw [hs] at n; simp only at n; omega

theorem B_string {zs : List Int} {d : Int} {j : Nat} (h : j < zs.length) (c : bt zs j = 34) {m : Nat} (n : S zs (j + 1) = (m : Int)) : B zs d j = B zs d m := by
  have e : scan 0 d (zs.drop j) = (scan 1 d (zs.drop (j + 1))).map (· + 1) := by rw [drop_cons h, c]; simp [scan]
  have s := scan_str d (zs.drop (j + 1)) false
  simp only [Bool.false_eq_true, if_false] at s
  unfold S pos at n
  unfold B pos
  rw [e, s]
  cases hs : str false (zs.drop (j + 1)) with
  | none => rw [hs] at n; simp only at n; omega
  | some q =>
    rw [hs] at n; simp only at n
    have hm : m = j + 1 + q := by omega
    subst hm
    simp only [Option.bind_some, List.drop_drop]
    cases scan 0 d (zs.drop (j + 1 + q)) with
    | none => rfl
    | some r => simp only [Option.map_some]; omega

theorem B_open {zs : List Int} {d : Int} {j : Nat} (h : j < zs.length) (c : bt zs j = 123 ∨ bt zs j = 91) : B zs d j = B zs (d + 1) (j + 1) :=
  pos_map h (by rw [drop_cons h]; rcases c with c | c <;> rw [c] <;> simp [scan])

theorem B_close {zs : List Int} {d : Int} {j : Nat} (h : j < zs.length) (c : bt zs j = 125 ∨ bt zs j = 93) (hd : d ≠ 1) : B zs d j = B zs (d - 1) (j + 1) :=
  pos_map h (by rw [drop_cons h]; rcases c with c | c <;> rw [c] <;> simp [scan, hd])

theorem B_last {zs : List Int} {d : Int} {j : Nat} (h : j < zs.length) (c : bt zs j = 125 ∨ bt zs j = 93) (hd : d = 1) : B zs d j = (j : Int) + 1 := by
  unfold B pos; rw [drop_cons h]; subst hd
  rcases c with c | c <;> rw [c] <;> simp [scan]

theorem B_other {zs : List Int} {d : Int} {j : Nat} (h : j < zs.length) (c1 : bt zs j ≠ 34) (c2 : bt zs j ≠ 123) (c3 : bt zs j ≠ 91) (c4 : bt zs j ≠ 125) (c5 : bt zs j ≠ 93) : B zs d j = B zs d (j + 1) :=
  pos_map h (by rw [drop_cons h]; simp [scan, c1, c2, c3, c4, c5])

theorem run_le (p : Int → Bool) (l : List Int) : run p l ≤ l.length := by
  induction l with
  | nil => simp [run]
  | cons c t ih => simp only [run, List.length_cons]; split <;> omega

theorem R_end {p : Int → Bool} {zs : List Int} {j : Nat} (h : zs.length ≤ j) : R p zs j = j := by
  unfold R; rw [List.drop_eq_nil_of_le h]; rfl
theorem R_stop {p : Int → Bool} {zs : List Int} {j : Nat} (h : j < zs.length) (c : p (bt zs j) = false) : R p zs j = j := by
  unfold R; rw [drop_cons h]; simp [run, c]
theorem R_step {p : Int → Bool} {zs : List Int} {j : Nat} (h : j < zs.length) (c : p (bt zs j) = true) : R p zs j = R p zs (j + 1) := by
  unfold R; rw [drop_cons h]; simp [run, c]; omega
theorem R_range (p : Int → Bool) (zs : List Int) (j : Nat) (h : j ≤ zs.length) : j ≤ R p zs j ∧ R p zs j ≤ zs.length := by
  have := run_le p (zs.drop j)
  simp only [List.length_drop] at this
  unfold R; omega

theorem V_end {zs : List Int} {j : Nat} (h : zs.length ≤ j) : V zs j = -1 := pos_end rfl h
theorem V_string {zs : List Int} {j : Nat} (h : j < zs.length) (c : bt zs j = 34) : V zs j = S zs (j + 1) :=
  pos_map h (by rw [drop_cons h, c]; simp [val])
theorem V_open {zs : List Int} {j : Nat} (h : j < zs.length) (c : bt zs j = 123 ∨ bt zs j = 91) : V zs j = B zs 0 j := by
  unfold V B pos; rw [drop_cons h]
  rcases c with c | c <;> rw [c] <;> simp [val]
theorem V_none {zs : List Int} {j : Nat} (h : j < zs.length) (c1 : bt zs j ≠ 34) (c2 : bt zs j ≠ 123) (c3 : bt zs j ≠ 91) (e : R (fun c => !endsB c) zs j = j) : V zs j = -1 := by
  have e' : run (fun c => !endsB c) (zs.drop j) = 0 := by unfold R at e; omega
  unfold V pos; rw [drop_cons h] at e' ⊢
  simp [val, c1, c2, c3, e']
theorem V_some {zs : List Int} {j : Nat} (h : j < zs.length) (c1 : bt zs j ≠ 34) (c2 : bt zs j ≠ 123) (c3 : bt zs j ≠ 91) (e : R (fun c => !endsB c) zs j ≠ j) : V zs j = (R (fun c => !endsB c) zs j : Int) := by
  have e' : run (fun c => !endsB c) (zs.drop j) ≠ 0 := by unfold R at e; omega
  unfold V pos R; rw [drop_cons h] at e' ⊢
  simp [val, c1, c2, c3, e']

/-! ### The laws on val -/
theorem scan_le (l : List Int) : ∀ (m : Nat) (d : Int) (n : Nat), scan m d l = some n → 1 ≤ n ∧ n ≤ l.length ∧ scan m d (l.take n) = some n := by
  induction l with
  | nil => intro m d n h; simp [scan] at h
  | cons c t ih =>
    intro m d n h
    have key : ∀ m' d', (scan m' d' t).map (· + 1) = some n → 1 ≤ n ∧ n ≤ (c :: t).length ∧ ∃ k, n = k + 1 ∧ (scan m' d' (t.take k)).map (· + 1) = some n := by
      intro m' d' h'
      rw [Option.map_eq_some_iff] at h'
      obtain ⟨k, hk, rfl⟩ := h'
      obtain ⟨a, b, c⟩ := ih m' d' k hk
      exact ⟨by omega, by simp; omega, k, rfl, by rw [c]; rfl⟩
    match m, h with
    | 0, h =>
      simp only [scan] at h
      split at h
      next c1 => obtain ⟨a, b, k, rfl, q⟩ := key _ _ h; exact ⟨a, b, by simp [scan, c1, List.take_succ_cons]; simpa using q⟩
      next c1 =>
        split at h
        next c2 => obtain ⟨a, b, k, rfl, q⟩ := key _ _ h; exact ⟨a, b, by simp only [scan, List.take_succ_cons, c1, c2, if_false, if_true]; exact q⟩
        next c2 =>
          split at h
          next c3 =>
            split at h
            next c4 => simp at h; subst h; simp [scan, c1, c2, c3, c4]
            next c4 => obtain ⟨a, b, k, rfl, q⟩ := key _ _ h; exact ⟨a, b, by simp only [scan, List.take_succ_cons, c1, c2, c3, c4, if_false, if_true]; exact q⟩
          next c3 => obtain ⟨a, b, k, rfl, q⟩ := key _ _ h; exact ⟨a, b, by simp only [scan, List.take_succ_cons, c1, c2, c3, if_false]; exact q⟩
    | 1, h =>
      simp only [scan] at h
      split at h
      next c1 => obtain ⟨a, b, k, rfl, q⟩ := key _ _ h; exact ⟨a, b, by simp only [scan, List.take_succ_cons, c1, if_true]; exact q⟩
      next c1 =>
        split at h
        next c2 => obtain ⟨a, b, k, rfl, q⟩ := key _ _ h; exact ⟨a, b, by simp only [scan, List.take_succ_cons, c1, c2, if_false, if_true]; exact q⟩
        next c2 => obtain ⟨a, b, k, rfl, q⟩ := key _ _ h; exact ⟨a, b, by simp only [scan, List.take_succ_cons, c1, c2, if_false]; exact q⟩
    | m + 2, h =>
      simp only [scan] at h
      obtain ⟨a, b, k, rfl, q⟩ := key _ _ h
      exact ⟨a, b, by simp only [scan, List.take_succ_cons]; exact q⟩

theorem str_take (l : List Int) : ∀ (e : Bool) (n : Nat), str e l = some n → str e (l.take n) = some n := by
  induction l with
  | nil => intro e n h; cases e <;> simp [str] at h
  | cons c t ih =>
    intro e n h
    have key : ∀ e', (str e' t).map (· + 1) = some n → ∃ k, n = k + 1 ∧ (str e' (t.take k)).map (· + 1) = some n := by
      intro e' h'
      rw [Option.map_eq_some_iff] at h'
      obtain ⟨k, hk, rfl⟩ := h'
      exact ⟨k, rfl, by rw [ih e' k hk]; rfl⟩
    cases e with
    | true =>
      simp only [str] at h
      obtain ⟨k, rfl, q⟩ := key _ h
      simp only [str, List.take_succ_cons]; exact q
    | false =>
      simp only [str] at h
      split at h
      next c1 => simp at h; subst h; simp [str, c1]
      next c1 =>
        split at h
        next c2 => obtain ⟨k, rfl, q⟩ := key _ h; simp only [str, List.take_succ_cons, c1, c2, if_false, if_true]; exact q
        next c2 => obtain ⟨k, rfl, q⟩ := key _ h; simp only [str, List.take_succ_cons, c1, c2, if_false]; exact q

theorem run_take (p : Int → Bool) (l : List Int) : run p (l.take (run p l)) = run p l := by
  induction l with
  | nil => rfl
  | cons c t ih =>
    by_cases h : p c
    · have e : run p (c :: t) = run p t + 1 := by simp [run, h]
      rw [e, List.take_succ_cons]; simp [run, h, ih]
    · simp [run, h]

theorem val_le (l : List Int) (n : Nat) (h : val l = some n) : 1 ≤ n ∧ n ≤ l.length ∧ val (l.take n) = some n := by
  cases l with
  | nil => simp [val] at h
  | cons c t =>
    by_cases c1 : c = 34
    · subst c1
      simp only [val, if_true] at h
      rw [Option.map_eq_some_iff] at h
      obtain ⟨k, hk, rfl⟩ := h
      have a := str_le _ _ _ hk
      have b := str_take _ _ _ hk
      refine ⟨by omega, by simp; omega, ?_⟩
      simp [val, List.take_succ_cons, b]
    · by_cases c2 : c = 123 ∨ c = 91
      · have h' : scan 0 0 (c :: t) = some n := by simpa [val, c1, c2] using h
        obtain ⟨a, b, q⟩ := scan_le _ _ _ _ h'
        obtain ⟨k, rfl⟩ : ∃ k, n = k + 1 := ⟨n - 1, by omega⟩
        refine ⟨a, b, ?_⟩
        rw [List.take_succ_cons] at q ⊢
        simpa [val, c1, c2] using q
      · by_cases c3 : run (fun c => !endsB c) (c :: t) = 0
        · simp [val, c1, c2, c3] at h
        · have h' : run (fun c => !endsB c) (c :: t) = n := by simpa [val, c1, c2, c3] using h
          have a := run_le (fun c => !endsB c) (c :: t)
          have b := run_take (fun c => !endsB c) (c :: t)
          rw [h'] at a b c3
          obtain ⟨k, rfl⟩ : ∃ k, n = k + 1 := ⟨n - 1, by omega⟩
          refine ⟨by omega, a, ?_⟩
          rw [List.take_succ_cons] at b ⊢
          simp [val, c1, c2, b]

theorem V_range (zs : List Int) (j : Nat) : V zs j = -1 ∨ ((j : Int) + 1 ≤ V zs j ∧ V zs j ≤ (zs.length : Int)) := by
  unfold V pos
  cases h : val (zs.drop j) with
  | none => left; rfl
  | some n =>
    right
    have := val_le _ _ h
    simp only [List.length_drop] at this
    simp only; omega

/-- Cutting at the end that was found changes nothing. -/
theorem V_take {zs : List Int} {j r : Nat} (h : V zs j = (r : Int)) : V (zs.take r) j = (r : Int) := by
  unfold V pos at h ⊢
  cases e : val (zs.drop j) with
  | none => rw [e] at h; simp only at h; omega
  | some n =>
    rw [e] at h; simp only at h
    obtain rfl : r = j + n := by omega
    have := (val_le _ _ e).2.2
    rw [List.drop_take, Nat.add_sub_cancel_left, this]

/-- Bytes laid ahead shift the answer. -/
theorem V_prefix (p zs : List Int) (j : Nat) : V (p ++ zs) (p.length + j) = if V zs j = -1 then -1 else (p.length : Int) + V zs j := by
  unfold V pos
  have : (p ++ zs).drop (p.length + j) = zs.drop j := by simp
  rw [this]
  cases val (zs.drop j) with
  | none => rfl
  | some n =>
    simp only
    rw [if_neg (by omega)]; omega

end Go.Proofs.Qxb6001151aMods.Plain
