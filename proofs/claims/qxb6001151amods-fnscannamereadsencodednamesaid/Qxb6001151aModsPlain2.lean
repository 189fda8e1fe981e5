/-
  THE PLAIN LAWS, MORE: the encoder, scanName.
-/
import Derived.Test.Qxb6001151aModsPlain
namespace Go.Proofs.Qxb6001151aMods.Plain
set_option linter.unusedSimpArgs false

/-- The inside of a string as our encoder writes it. -/
def esc : List Int → List Int
  | [] => []
  | c :: t => if c = 34 ∨ c = 92 then 92 :: c :: esc t else c :: esc t

theorem esc_snoc (l : List Int) (c : Int) : esc (l ++ [c]) = esc l ++ (if c = 34 ∨ c = 92 then [92, c] else [c]) := by
  induction l with
  | nil => by_cases h : c = 34 ∨ c = 92 <;> simp [esc, h]
  | cons d t ih =>
    by_cases h : d = 34 ∨ d = 92
    · simp [esc, h, ih]
    · simp [esc, h, ih]

theorem esc_length (l : List Int) : l.length ≤ (esc l).length ∧ (esc l).length ≤ 2 * l.length := by
  induction l with
  | nil => simp [esc]
  | cons d t ih => simp only [esc]; split <;> simp only [List.length_cons] <;> omega

theorem str_esc (l rest : List Int) : str false (esc l ++ 34 :: rest) = some ((esc l).length + 1) := by
  induction l with
  | nil => simp [esc, str]
  | cons c t ih =>
    by_cases h1 : c = 34
    · subst h1; simp [esc, str, ih]
    · by_cases h2 : c = 92
      · subst h2; simp [esc, str, ih]
      · simp [esc, str, h1, h2, ih]

/-- What the scanner passes over at every depth. -/
def Pass (l : List Int) : Prop := ∀ (d : Int) (rest : List Int), scan 0 d (l ++ rest) = (scan 0 d rest).map (· + l.length)

theorem Pass.nil : Pass [] := fun d rest => by simp
theorem Pass.append {a b : List Int} (ha : Pass a) (hb : Pass b) : Pass (a ++ b) := fun d rest => by
  rw [List.append_assoc, ha, hb, Option.map_map, List.length_append]
  congr 1; funext x; simp; omega
theorem Pass.comma : Pass [44] := fun d rest => by simp [scan]
/-- A string as it is written. -/
def itm (s : List Int) : List Int := 34 :: (esc s ++ [34])
theorem itm_length (s : List Int) : (itm s).length = (esc s).length + 2 := by simp [itm]
theorem Pass.item (s : List Int) : Pass (itm s) := fun d rest => by
  have e : itm s ++ rest = 34 :: (esc s ++ 34 :: rest) := by simp [itm]
  have k := scan_str d (esc s ++ 34 :: rest) false
  simp only [Bool.false_eq_true, if_false, str_esc, Option.bind_some] at k
  rw [e]
  simp only [scan, if_true, k]
  have dr : (esc s ++ 34 :: rest).drop ((esc s).length + 1) = rest := by
    rw [show esc s ++ 34 :: rest = (esc s ++ [34]) ++ rest by simp]
    exact List.drop_left' (by simp)
  rw [dr, Option.map_map, itm_length]
  congr 1

/-- The first j items, commas between. -/
def bodyN (items : List (List Int)) : Nat → List Int
  | 0 => []
  | j + 1 => bodyN items j ++ (if 0 < j then [44] else []) ++ itm (items.getD j [])
theorem Pass.body (items : List (List Int)) (j : Nat) : Pass (bodyN items j) := by
  induction j with
  | zero => exact Pass.nil
  | succ j ih =>
    refine (ih.append ?_).append (Pass.item _)
    split
    · exact Pass.comma
    · exact Pass.nil

/-- l, n times. -/
def rep (l : List Int) : Nat → List Int
  | 0 => []
  | n + 1 => rep l n ++ l
theorem rep_length (l : List Int) (n : Nat) : (rep l n).length = n * l.length := by
  induction n with
  | zero => simp [rep]
  | succ n ih => simp [rep, ih, Nat.add_mul]

def opn : List Int := [123, 34, 107, 34, 58, 91]
def cls : List Int := [93, 125]
theorem scan_opn (d : Int) (rest : List Int) : scan 0 d (opn ++ rest) = (scan 0 (d + 2) rest).map (· + 6) := by
  simp only [opn, List.cons_append, List.nil_append]
  simp [scan, Option.map_map]
  rw [show d + 1 + 1 = d + 2 by omega]
  cases scan 0 (d + 2) rest <;> simp
theorem scan_opns (n : Nat) : ∀ (d : Int) (rest : List Int), scan 0 d (rep opn n ++ rest) = (scan 0 (d + 2 * n) rest).map (· + (rep opn n).length) := by
  induction n with
  | zero => intro d rest; simp [rep]
  | succ n ih =>
    intro d rest
    rw [rep, List.append_assoc, ih, scan_opn, Option.map_map, List.length_append, show d + 2 * (n : Int) + 2 = d + 2 * ((n + 1 : Nat) : Int) by omega]
    congr 1; funext x; simp [opn]; omega
theorem scan_cls (d : Int) (hd : d ≠ 1) (hd' : d ≠ 2) (rest : List Int) : scan 0 d (cls ++ rest) = (scan 0 (d - 2) rest).map (· + 2) := by
  simp only [cls, List.cons_append, List.nil_append]
  have h : ¬ d - 1 = 1 := by omega
  simp [scan, Option.map_map, hd, h]
  rw [show d - 1 - 1 = d - 2 by omega]
  cases scan 0 (d - 2) rest <;> simp
theorem scan_clss (n : Nat) : ∀ (d : Int) (_ : 2 * (n : Int) + 2 ≤ d) (rest : List Int), scan 0 d (rep cls n ++ rest) = (scan 0 (d - 2 * n) rest).map (· + (rep cls n).length) := by
  induction n with
  | zero => intro d hd rest; simp [rep]
  | succ n ih =>
    intro d hd rest
    rw [rep, List.append_assoc, ih d (by omega), scan_cls _ (by omega) (by omega), Option.map_map, List.length_append, show d - 2 * (n : Int) - 2 = d - 2 * ((n + 1 : Nat) : Int) by omega]
    congr 1; funext x; simp [cls]; omega
theorem scan_end (n : Nat) (rest : List Int) : scan 0 (2 * (n : Int) + 1) (93 :: (rep cls n ++ rest)) = some ((rep cls n).length + 1) := by
  cases n with
  | zero => simp [scan, rep]
  | succ n =>
    have h : ¬ (2 * ((n + 1 : Nat) : Int) + 1 = 1) := by omega
    have e : 2 * ((n + 1 : Nat) : Int) + 1 - 1 = 2 * (n : Int) + 2 := by omega
    simp only [scan]
    rw [if_neg (by decide), if_neg (by decide), if_pos (Or.inr trivial), if_neg h, e, rep, List.append_assoc, scan_clss n _ (by omega), show 2 * (n : Int) + 2 - 2 * n = 2 by omega]
    simp [cls, scan]; omega

/-- The whole value, as the law writes it. -/
def encV (items : List (List Int)) (n depth : Nat) : List Int := rep opn depth ++ [91] ++ bodyN items n ++ [93] ++ rep cls depth

theorem val_enc (items : List (List Int)) (n depth : Nat) (tail : List Int) : val (encV items n depth ++ tail) = some (encV items n depth).length := by
  have hs : scan 0 0 (encV items n depth ++ tail) = some (encV items n depth).length := by
    have e : encV items n depth ++ tail = rep opn depth ++ (91 :: (bodyN items n ++ (93 :: (rep cls depth ++ tail)))) := by simp [encV]
    rw [e, scan_opns]
    have e2 : scan 0 (0 + 2 * (depth : Int)) (91 :: (bodyN items n ++ 93 :: (rep cls depth ++ tail))) = some ((rep cls depth).length + 1 + (bodyN items n).length + 1) := by
      simp only [scan]
      rw [if_neg (by decide), if_pos (Or.inr trivial), Pass.body items n, show 0 + 2 * (depth : Int) + 1 = 2 * (depth : Int) + 1 by omega, scan_end]
      rfl
    rw [e2]
    simp [encV]; omega
  cases depth with
  | zero =>
    have e : encV items n 0 ++ tail = 91 :: (bodyN items n ++ 93 :: tail) := by simp [encV, rep]
    rw [e] at hs ⊢
    simpa [val] using hs
  | succ k =>
    obtain ⟨t, ht⟩ : ∃ t, encV items n (k + 1) ++ tail = 123 :: t := by
      have : ∀ k, ∃ t, rep opn (k + 1) = 123 :: t := by
        intro k
        induction k with
        | zero => exact ⟨_, rfl⟩
        | succ k ih => obtain ⟨t, ht⟩ := ih; rw [rep, ht]; exact ⟨_, rfl⟩
      obtain ⟨t, ht⟩ := this k
      refine ⟨t ++ [91] ++ bodyN items n ++ [93] ++ rep cls (k + 1) ++ tail, ?_⟩
      simp [encV, ht]
    rw [ht] at hs ⊢
    simpa [val] using hs

theorem V_enc (items : List (List Int)) (n depth : Nat) (pre tail : List Int) : V (pre ++ encV items n depth ++ tail) pre.length = (pre.length : Int) + (encV items n depth).length := by
  unfold V pos
  rw [List.append_assoc, List.drop_left, val_enc]
  simp

/-! ### scanName -/
theorem str_last (l : List Int) : ∀ (e : Bool) (n : Nat), str e l = some n → bt l (n - 1) = 34 := by
  induction l with
  | nil => intro e n h; cases e <;> simp [str] at h
  | cons c t ih =>
    intro e n h
    have key : ∀ e', (str e' t).map (· + 1) = some n → bt (c :: t) (n - 1) = 34 := by
      intro e' h'
      rw [Option.map_eq_some_iff] at h'
      obtain ⟨k, hk, rfl⟩ := h'
      have a := ih e' k hk
      have b := (str_le _ _ _ hk).1
      obtain ⟨q, rfl⟩ : ∃ q, k = q + 1 := ⟨k - 1, by omega⟩
      simpa [bt] using a
    cases e with
    | true => exact key false (by simpa [str] using h)
    | false =>
      simp only [str] at h
      split at h
      next c1 => simp at h; subst h; simp [bt, c1]
      next c1 =>
        split at h
        · exact key _ h
        · exact key _ h

theorem bt_drop (zs : List Int) (j k : Nat) : bt (zs.drop j) k = bt zs (j + k) := by simp [bt, List.getD]

theorem S_last {zs : List Int} {j e : Nat} (h : S zs j = (e : Int)) : bt zs (e - 1) = 34 := by
  unfold S pos at h
  cases hs : str false (zs.drop j) with
  | none => rw [hs] at h; simp only at h; omega
  | some n =>
    rw [hs] at h; simp only at h
    have a := str_last _ _ _ hs
    have b := (str_le _ _ _ hs).1
    rw [bt_drop] at a
    rw [show e - 1 = j + (n - 1) by omega]; exact a

theorem run_all (p : Int → Bool) (l : List Int) : ∀ k, k < run p l → p (bt l k) = true := by
  induction l with
  | nil => intro k hk; simp [run] at hk
  | cons c t ih =>
    intro k hk
    simp only [run] at hk
    split at hk
    next h =>
      cases k with
      | zero => simpa [bt] using h
      | succ k => simpa [bt] using ih k (by omega)
    next h => omega

theorem R_all (p : Int → Bool) (zs : List Int) (j k : Nat) (h1 : j ≤ k) (h2 : k < R p zs j) : p (bt zs k) = true := by
  unfold R at h2
  have := run_all p (zs.drop j) (k - j) (by omega)
  rw [bt_drop, show j + (k - j) = k by omega] at this
  exact this

/-- Where scanName accepts: the place behind the closing quote, the colon's place. -/
def Acc (zs : List Int) (i e c : Nat) : Prop :=
  i < zs.length ∧ bt zs i = 34 ∧ S zs (i + 1) = (e : Int) ∧ R spcB zs e = c ∧ c < zs.length ∧ bt zs c = 58

theorem Acc.bounds {zs : List Int} {i e c : Nat} (h : Acc zs i e c) : i + 2 ≤ e ∧ e ≤ c ∧ e ≤ zs.length := by
  obtain ⟨h1, h2, h3, h4, h5, h6⟩ := h
  have a := S_range zs (i + 1)
  have b := R_range spcB zs e (by omega)
  omega

/-- The white space that the law's encoder cycles through. -/
def spc (k : Nat) : Int := if k % 4 = 0 then 32 else if k % 4 = 1 then 9 else if k % 4 = 2 then 13 else 10
def sp : Nat → List Int
  | 0 => []
  | k + 1 => sp k ++ [spc k]
theorem sp_length (n : Nat) : (sp n).length = n := by
  induction n with
  | zero => rfl
  | succ n ih => simp [sp, ih]
theorem spc_spc (k : Nat) : spcB (spc k) = true := by
  unfold spc; split
  · rfl
  · split
    · rfl
    · split <;> rfl
theorem run_append (p : Int → Bool) (a b : List Int) (h : ∀ x ∈ a, p x = true) : run p (a ++ b) = a.length + run p b := by
  induction a with
  | nil => simp
  | cons c t ih =>
    have hc := h c (by simp)
    simp only [List.cons_append, run, hc, if_true, List.length_cons]
    rw [ih (fun x hx => h x (by simp [hx]))]; omega
theorem sp_all (n : Nat) : ∀ x ∈ sp n, spcB x = true := by
  induction n with
  | zero => intro x hx; simp [sp] at hx
  | succ n ih =>
    intro x hx
    simp only [sp, List.mem_append, List.mem_singleton] at hx
    rcases hx with hx | rfl
    · exact ih x hx
    · exact spc_spc n

theorem bt_append_right (a b : List Int) (j : Nat) : bt (a ++ b) (a.length + j) = bt b j := by
  have h : (a ++ b)[a.length + j]? = b[j]? := by rw [List.getElem?_append_right (by omega)]; congr 1; omega
  simp only [bt, List.getD, h]
theorem bt_mid (a : List Int) (c : Int) (b : List Int) : bt (a ++ c :: b) a.length = c := by
  simp [bt]

theorem Acc_enc (pre name tail : List Int) (n : Nat) :
    Acc (pre ++ [34] ++ esc name ++ [34] ++ sp n ++ [58] ++ tail) pre.length (pre.length + (esc name).length + 2) (pre.length + (esc name).length + 2 + n) := by
  have e1 : pre ++ [34] ++ esc name ++ [34] ++ sp n ++ [58] ++ tail = pre ++ (34 :: (esc name ++ 34 :: (sp n ++ 58 :: tail))) := by simp
  have e2 : pre ++ [34] ++ esc name ++ [34] ++ sp n ++ [58] ++ tail = (pre ++ [34] ++ esc name ++ [34]) ++ (sp n ++ 58 :: tail) := by simp
  have e3 : pre ++ [34] ++ esc name ++ [34] ++ sp n ++ [58] ++ tail = (pre ++ [34] ++ esc name ++ [34] ++ sp n) ++ (58 :: tail) := by simp
  have l2 : (pre ++ [34] ++ esc name ++ [34]).length = pre.length + (esc name).length + 2 := by simp; omega
  have l3 : (pre ++ [34] ++ esc name ++ [34] ++ sp n).length = pre.length + (esc name).length + 2 + n := by simp [sp_length]; omega
  refine ⟨by simp, ?_, ?_, ?_, ?_, ?_⟩
  · rw [e1]; exact bt_mid _ _ _
  · unfold S pos
    have d : (pre ++ [34] ++ esc name ++ [34] ++ sp n ++ [58] ++ tail).drop (pre.length + 1) = esc name ++ 34 :: (sp n ++ 58 :: tail) := by
      rw [show pre ++ [34] ++ esc name ++ [34] ++ sp n ++ [58] ++ tail = (pre ++ [34]) ++ (esc name ++ 34 :: (sp n ++ 58 :: tail)) by simp]
      exact List.drop_left' (by simp)
    rw [d, str_esc]
    simp only; omega
  · unfold R
    have d : (pre ++ [34] ++ esc name ++ [34] ++ sp n ++ [58] ++ tail).drop (pre.length + (esc name).length + 2) = sp n ++ 58 :: tail := by
      rw [e2]; exact List.drop_left' l2
    rw [d, run_append _ _ _ (sp_all n), sp_length]
    simp [run, spcB]
  · rw [e3, List.length_append, l3]; simp
  · rw [e3, ← l3]; exact bt_mid _ _ _

end Go.Proofs.Qxb6001151aMods.Plain
