/-
  THE CUT's HEAD, READ CHEAPLY: the three closed facts that look at the head's words ('mayEnter', 'make', 'liftsFinal') cost the kernel more than ten gigabytes each where it takes the whole string apart;
  here the string is told as signs, its first four words are parted by a lemma, and the rest is never looked at.
-/
import Derived.Test.Qxb6602201aModsRows
import Derived.WalkKit
import Derived.ProofKit
namespace Go.Proofs.Qxb6602201aMods
def head1 : List Char := List.map Char.ofNat [104, 97, 114, 110, 101, 115, 115]
def head2 : List Char := List.map Char.ofNat [97, 48, 97, 51, 49, 97, 97, 53, 101, 97, 53, 100, 48, 56, 49, 97, 99, 98, 49, 56, 52, 49, 55, 99, 50, 52, 56, 101, 52, 97, 48, 56, 102, 57, 54, 102, 56, 50, 101, 97, 53, 55, 101, 56, 49, 50, 99, 101, 100, 54, 54, 56, 57, 102, 57, 100, 48, 55, 98, 52, 55, 97, 50, 57]
def head3 : List Char := List.map Char.ofNat [112, 117, 98, 108, 105, 99, 115, 117, 109, 115]
def head4 : List Char := List.map Char.ofNat [99, 117, 116]
def head5 : List Char := List.map Char.ofNat [97, 116, 32, 101, 120, 97, 109, 112, 108, 101, 46, 99, 111, 109, 47, 107, 97, 112, 105, 99, 105, 47, 107, 97, 112, 105, 99, 105, 47, 122, 122, 108, 97, 119, 115, 95, 105, 110, 116, 101, 114, 110, 97, 108, 95, 109, 97, 110, 105, 102, 101, 115, 116, 95, 98, 49, 46, 70, 110, 81, 117, 111, 116, 101, 100, 83, 105, 110, 103, 108, 101, 82, 111, 117, 110, 100, 84, 114, 105, 112, 32, 101, 120, 97, 109, 112, 108, 101, 46, 99, 111, 109, 47, 107, 97, 112, 105, 99, 105, 47, 107, 97, 112, 105, 99, 105, 47, 122, 122, 108, 97, 119, 115, 95, 105, 110, 116, 101, 114, 110, 97, 108, 95, 109, 97, 110, 105, 102, 101, 115, 116, 95, 98, 49, 46, 70, 110, 81, 117, 111, 116, 101, 100, 68, 111, 117, 98, 108, 101, 82, 111, 117, 110, 100, 84, 114, 105, 112, 32, 101, 120, 97, 109, 112, 108, 101, 46, 99, 111, 109, 47, 107, 97, 112, 105, 99, 105, 47, 107, 97, 112, 105, 99, 105, 47, 122, 122, 108, 97, 119, 115, 95, 105, 110, 116, 101, 114, 110, 97, 108, 95, 109, 97, 110, 105, 102, 101, 115, 116, 95, 98, 49, 46, 70, 110, 66, 108, 111, 99, 107, 83, 99, 97, 108, 97, 114, 67, 104, 111, 109, 112, 105, 110, 103, 70, 97, 109, 105, 108, 121, 32, 101, 120, 97, 109, 112, 108, 101, 46, 99, 111, 109, 47, 107, 97, 112, 105, 99, 105, 47, 107, 97, 112, 105, 99, 105, 47, 122, 122, 108, 97, 119, 115, 95, 105, 110, 116, 101, 114, 110, 97, 108, 95, 109, 97, 110, 105, 102, 101, 115, 116, 95, 98, 49, 46, 70, 110, 66, 108, 111, 99, 107, 83, 99, 97, 108, 97, 114, 70, 111, 108, 100, 105, 110, 103, 82, 101, 97, 100, 115, 83, 97, 109, 101, 76, 105, 110, 101, 115]
def headSigns : List Char := head1 ++ ' ' :: (head2 ++ ' ' :: (head3 ++ ' ' :: (head4 ++ ' ' :: head5)))
theorem words_cons (w r : List Char) (h : w.all (fun c => c != ' ') = true) : wordsSigns (w ++ ' ' :: r) = w :: wordsSigns r := by
  induction w with
  | nil => simp [wordsSigns]
  | cons c t ih =>
    simp only [List.all_cons, Bool.and_eq_true, bne_iff_ne, ne_eq] at h
    have e : wordsSigns (c :: (t ++ ' ' :: r)) = match wordsSigns (t ++ ' ' :: r) with | w :: ws => (c :: w) :: ws | [] => [[c]] := by
      rw [wordsSigns]
      · rfl
      · exact fun hc => h.1 hc
    rw [List.cons_append, e, ih h.2]
theorem head_string : Trym.pinned.checked.prog.initOrder = String.ofList headSigns := by kernel_rfl
theorem head_signs : Trym.pinned.checked.prog.initOrder.toList = headSigns := by rw [head_string, String.toList_ofList]
theorem head_words : wordsSigns Trym.pinned.checked.prog.initOrder.toList = head1 :: head2 :: head3 :: head4 :: wordsSigns head5 := by
  rw [head_signs]
  unfold headSigns
  rw [words_cons head1 _ (by kernel_rfl), words_cons head2 _ (by kernel_rfl), words_cons head3 _ (by kernel_rfl), words_cons head4 _ (by kernel_rfl)]
theorem head_behind : behindMainWord (wordsSigns Trym.pinned.checked.prog.initOrder.toList) = head3 :: head4 :: wordsSigns head5 := by
  rw [head_words]
  kernel_rfl
theorem head_strip (r : List (List Char)) : stripLifts liftWords (head3 :: head4 :: r) = (["publicsums"], head4 :: r) := by kernel_rfl
theorem head_cut (r : List (List Char)) : ((head4 :: r).head? == some "cut".toList) = true := by kernel_rfl
/-- Over any program whose head's words begin so: no great program is ever laid open here. -/
theorem enter_of (P : Program) (r : List (List Char)) (h : behindMainWord (wordsSigns P.initOrder.toList) = head3 :: head4 :: r) (h1 : P.laysLater = false) (h2 : P.bearsReflect = false) (h3 : P.doorFits ["publicsums"] = true) : P.mayEnter = true := by
  unfold Program.mayEnter
  rw [h]
  simp only [head_strip, head_cut, h1, h2, h3]
  simp
theorem lifts_of (P : Program) (r : List (List Char)) (h : behindMainWord (wordsSigns P.initOrder.toList) = head3 :: head4 :: r) : P.headLifts = ["publicsums"] := by
  unfold Program.headLifts
  rw [h]
  simp only [head_strip, head_cut, if_true]
theorem make_of (P : Program) (r : List (List Char)) (h : behindMainWord (wordsSigns P.initOrder.toList) = head3 :: head4 :: r) : P.make = some (.lifted ["publicsums"]) := by
  unfold Program.make
  rw [h, lifts_of P r h]
  have q1 : (head3 == "gc".toList || head3 == "spec".toList) = false := by kernel_rfl
  have q2 : (head3 == "cut".toList) = false := by kernel_rfl
  have q4 : (head3 == "finals".toList) = false := by kernel_rfl
  have q3 : (head3 == "carried".toList) = false := by kernel_rfl
  simp only [q1, q2, q3, q4, Bool.false_and, Bool.or_false, Bool.false_eq_true, if_false, List.isEmpty_cons]
theorem final_of (P : Program) (r : List (List Char)) (h : behindMainWord (wordsSigns P.initOrder.toList) = head3 :: head4 :: r) : P.liftsFinal = false := by
  unfold Program.liftsFinal
  rw [h, lifts_of P r h]
  have q3 : ((head3 :: head4 :: r).head? == some "carried".toList) = false := by kernel_rfl
  have q5 : ["publicsums"].contains "finals" = false := by kernel_rfl
  simp only [q3, q5, Bool.false_and, Bool.or_false]
theorem head_later : Trym.pinned.checked.prog.laysLater = false := by kernel_rfl
theorem head_reflect : Trym.pinned.checked.prog.bearsReflect = false := by kernel_rfl
theorem head_door : Trym.pinned.checked.prog.doorFits ["publicsums"] = true := by kernel_rfl
theorem head_enter : Trym.pinned.checked.prog.mayEnter = true := enter_of _ _ head_behind head_later head_reflect head_door
theorem head_make : Trym.pinned.checked.prog.make = some (.lifted ["publicsums"]) := make_of _ _ head_behind
theorem head_final : Trym.pinned.checked.prog.liftsFinal = false := final_of _ _ head_behind
end Go.Proofs.Qxb6602201aMods
