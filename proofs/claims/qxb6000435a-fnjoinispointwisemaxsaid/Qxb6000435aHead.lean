/-
  Qxb6000435a: what the head of the translation says, drawn without running 'String.toList' over its long line in the kernel (that run takes some 9 GB): the line is 'String.ofList l' by unfolding a literal, and 'String.toList_ofList' gives l back. Each fact is drawn over whatever program first, so that the kernel has nothing to run.
-/
import Derived.Test.Qxb6000435aRows
import Derived.ProofKit
import Derived.WalkKit
namespace Go.Proofs.Qxb6000435a

set_option maxRecDepth 100000 in
theorem head_list : ∃ l : List Char, Try.prog.initOrder = String.ofList l ∧ (behindMainWord (wordsSigns l)).head? = some "cut".toList := ⟨_, rfl, by kernel_rfl⟩

theorem words_of {P : Program} (h : ∃ l : List Char, P.initOrder = String.ofList l ∧ (behindMainWord (wordsSigns l)).head? = some "cut".toList) : ∃ rest, behindMainWord (wordsSigns P.initOrder.toList) = "cut".toList :: rest := by
  obtain ⟨l, h1, h2⟩ := h
  rw [h1, String.toList_ofList]
  cases h : behindMainWord (wordsSigns l) with
  | nil => rw [h] at h2; cases h2
  | cons c rest =>
    rw [h] at h2
    have e : c = "cut".toList := by simpa using h2
    exact ⟨rest, by rw [e]⟩

theorem strip_cut (rest : List (List Char)) : stripLifts liftWords ("cut".toList :: rest) = ([], "cut".toList :: rest) := by kernel_rfl

theorem headLifts_of {P : Program} (h : ∃ rest, behindMainWord (wordsSigns P.initOrder.toList) = "cut".toList :: rest) : P.headLifts = [] := by
  obtain ⟨rest, h⟩ := h
  unfold Program.headLifts
  rw [h, strip_cut]
  simp

theorem mayEnter_of {P : Program} (h : ∃ rest, behindMainWord (wordsSigns P.initOrder.toList) = "cut".toList :: rest) (h1 : P.laysLater = false) (h2 : P.bearsReflect = false) (h3 : P.doorFits [] = true) : P.mayEnter = true := by
  obtain ⟨rest, h⟩ := h
  unfold Program.mayEnter
  rw [h]
  simp only [strip_cut, h1, h2, h3]
  simp

theorem liftsFinal_of {P : Program} (h : ∃ rest, behindMainWord (wordsSigns P.initOrder.toList) = "cut".toList :: rest) : P.liftsFinal = false := by
  have hl := headLifts_of h
  obtain ⟨rest, h⟩ := h
  unfold Program.liftsFinal
  rw [h, hl]
  simp

theorem make_of {P : Program} (h : ∃ rest, behindMainWord (wordsSigns P.initOrder.toList) = "cut".toList :: rest) : P.make = some .cut := by
  obtain ⟨rest, h⟩ := h
  unfold Program.make
  rw [h]
  simp

theorem laysLater_no : Try.prog.laysLater = false := by kernel_rfl
theorem bearsReflect_no : Try.prog.bearsReflect = false := by kernel_rfl
theorem doorFits_yes : Try.prog.doorFits [] = true := by kernel_rfl
theorem head_words : ∃ rest, behindMainWord (wordsSigns Try.prog.initOrder.toList) = "cut".toList :: rest := words_of head_list
theorem mayEnter_yes : Try.prog.mayEnter = true := mayEnter_of head_words laysLater_no bearsReflect_no doorFits_yes
theorem liftsFinal_no : Try.prog.liftsFinal = false := liftsFinal_of head_words
theorem make_cut : Try.prog.make = some .cut := make_of head_words

end Go.Proofs.Qxb6000435a
