/-
  THREE OF THE ROW's CLOSED FACTS READ THE PROGRAM's HEAD ('mayEnter', 'liftsFinal', 'make'). Asked of the loaded program all at once the kernel decodes that string byte by byte and outgrows its lid of memory. HERE: the head's signs are taken as a list once; what is asked of the words is asked over a program that is a variable.
-/
import Derived.Test.Qxb6601715aRows
import Derived.ProofKit
namespace Go.Proofs.Qxb6601715a

set_option maxRecDepth 100000 in
/-- The head as a list of signs; its first word behind the maker's two is 'cut'. -/
theorem head_list : ∃ L : List Char, Try.prog.initOrder = String.ofList L ∧ behindMainWord (wordsSigns L) = ['c', 'u', 't'] :: (behindMainWord (wordsSigns L)).tail :=
  ⟨_, rfl, by kernel_rfl⟩
theorem head_words : ∃ ws, behindMainWord (wordsSigns Try.prog.initOrder.toList) = ['c', 'u', 't'] :: ws := by
  obtain ⟨L, h1, h2⟩ := head_list
  exact ⟨_, by rw [h1, String.toList_ofList]; exact h2⟩

theorem strip_cut (ws : List (List Char)) : stripLifts liftWords (['c', 'u', 't'] :: ws) = ([], ['c', 'u', 't'] :: ws) := by kernel_rfl

/-! Over a program that is a variable: so that nothing of the loaded program is reckoned here. -/
theorem make_of (P : Program) (ws : List (List Char)) (h : behindMainWord (wordsSigns P.initOrder.toList) = ['c', 'u', 't'] :: ws) : P.make = some .cut := by
  unfold Program.make
  rw [h]
  kernel_rfl
theorem liftsFinal_of (P : Program) (ws : List (List Char)) (h : behindMainWord (wordsSigns P.initOrder.toList) = ['c', 'u', 't'] :: ws) : P.liftsFinal = false := by
  unfold Program.liftsFinal Program.headLifts
  rw [h]
  kernel_rfl
theorem mayEnter_of (P : Program) (ws : List (List Char)) (h : behindMainWord (wordsSigns P.initOrder.toList) = ['c', 'u', 't'] :: ws) (h1 : P.laysLater = false) (h2 : P.bearsReflect = false) (h3 : P.doorFits [] = true) : P.mayEnter = true := by
  unfold Program.mayEnter
  rw [h]
  show (((['c', 'u', 't'] == "gc".toList || ['c', 'u', 't'] == "spec".toList) && _) || _ || _) = true
  rw [strip_cut, h1, h2, h3]
  kernel_rfl

theorem mayEnter_ok : Try.prog.mayEnter = true := by
  obtain ⟨ws, h⟩ := head_words
  exact mayEnter_of Try.prog ws h (by kernel_rfl) (by kernel_rfl) (by kernel_rfl)
theorem liftsFinal_ok : Try.prog.liftsFinal = false := by
  obtain ⟨ws, h⟩ := head_words
  exact liftsFinal_of Try.prog ws h
theorem make_ok : Try.prog.make = some .cut := by
  obtain ⟨ws, h⟩ := head_words
  exact make_of Try.prog ws h
end Go.Proofs.Qxb6601715a
