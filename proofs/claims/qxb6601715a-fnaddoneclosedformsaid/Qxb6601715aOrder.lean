/-
  THE PROGRAM's HEAD, SIGN BY SIGN: what 'joinedFacts' asks of it in three of its facts ('mayEnter', 'liftsFinal', 'make'). Asked all at once the kernel decodes the string of 549 signs byte by byte and cuts it into words, and outgrows its lid of memory: here the head is told by its signs' numbers, and its first three words are cut off by a lemma.
-/
import Derived.Test.Qxb6601715aRows
import Derived.ProofKit
namespace Go.Proofs.Qxb6601715a

/-- The first word of the head, the second, and what stands behind the third ('cut'). -/
def headA : List Char := ([104, 97, 114, 110, 101, 115, 115] : List Nat).map Char.ofNat
def headB : List Char := ([52, 102, 48, 48, 48, 55, 52, 101, 52, 57, 99, 99, 50, 100, 102, 48, 98, 100, 55, 48, 48, 48, 55, 51, 98, 57, 51, 54, 48, 56, 52, 55, 55, 50, 57, 53, 50, 53, 49, 102,
  51, 97, 57, 57, 50, 98, 100, 48, 98, 56, 54, 97, 101, 57, 57, 101, 51, 98, 55, 48, 99, 53, 49, 48] : List Nat).map Char.ofNat
def headC : List Char := ([99, 117, 116] : List Nat).map Char.ofNat
def headR : List Char := ([
  97, 116, 32, 101, 120, 97, 109, 112, 108, 101, 46, 99, 111, 109, 47, 118, 101, 114, 115, 105, 99, 108, 101, 47, 118, 101, 114, 115, 105, 99, 108, 101, 47, 122, 122, 108, 97, 119, 115, 95,
  114, 111, 111, 116, 95, 98, 49, 46, 70, 110, 65, 100, 100, 79, 110, 101, 67, 108, 111, 115, 101, 100, 70, 111, 114, 109, 32, 101, 120, 97, 109, 112, 108, 101, 46, 99, 111, 109, 47, 118,
  101, 114, 115, 105, 99, 108, 101, 47, 118, 101, 114, 115, 105, 99, 108, 101, 47, 122, 122, 108, 97, 119, 115, 95, 114, 111, 111, 116, 95, 98, 49, 46, 70, 110, 65, 100, 100, 79, 110, 101,
  73, 110, 118, 101, 114, 115, 101, 32, 101, 120, 97, 109, 112, 108, 101, 46, 99, 111, 109, 47, 118, 101, 114, 115, 105, 99, 108, 101, 47, 118, 101, 114, 115, 105, 99, 108, 101, 47, 122, 122,
  108, 97, 119, 115, 95, 114, 111, 111, 116, 95, 98, 49, 46, 70, 110, 67, 111, 109, 112, 97, 114, 101, 67, 111, 114, 101, 76, 101, 120, 105, 99, 111, 103, 114, 97, 112, 104, 105, 99, 32,
  101, 120, 97, 109, 112, 108, 101, 46, 99, 111, 109, 47, 118, 101, 114, 115, 105, 99, 108, 101, 47, 118, 101, 114, 115, 105, 99, 108, 101, 47, 122, 122, 108, 97, 119, 115, 95, 114, 111, 111,
  116, 95, 98, 49, 46, 70, 110, 67, 111, 109, 112, 97, 114, 101, 67, 111, 114, 101, 84, 111, 116, 97, 108, 79, 114, 100, 101, 114, 32, 101, 120, 97, 109, 112, 108, 101, 46, 99, 111, 109,
  47, 118, 101, 114, 115, 105, 99, 108, 101, 47, 118, 101, 114, 115, 105, 99, 108, 101, 47, 122, 122, 108, 97, 119, 115, 95, 114, 111, 111, 116, 95, 98, 49, 46, 70, 110, 78, 101, 120, 116,
  80, 114, 101, 114, 101, 108, 101, 97, 115, 101, 77, 111, 100, 101, 108, 32, 101, 120, 97, 109, 112, 108, 101, 46, 99, 111, 109, 47, 118, 101, 114, 115, 105, 99, 108, 101, 47, 118, 101, 114,
  115, 105, 99, 108, 101, 47, 122, 122, 108, 97, 119, 115, 95, 114, 111, 111, 116, 95, 98, 49, 46, 70, 110, 78, 101, 120, 116, 80, 114, 101, 114, 101, 108, 101, 97, 115, 101, 65, 115, 99,
  101, 110, 100, 115, 32, 101, 120, 97, 109, 112, 108, 101, 46, 99, 111, 109, 47, 118, 101, 114, 115, 105, 99, 108, 101, 47, 118, 101, 114, 115, 105, 99, 108, 101, 47, 122, 122, 108, 97, 119,
  115, 95, 114, 111, 111, 116, 95, 98, 49, 46, 70, 110, 78, 101, 120, 116, 80, 114, 101, 114, 101, 108, 101, 97, 115, 101, 83, 101, 114, 105, 101, 115] : List Nat).map Char.ofNat

theorem order_is : Try.prog.initOrder = String.ofList (headA ++ ' ' :: (headB ++ ' ' :: (headC ++ ' ' :: headR))) := by kernel_rfl
theorem order_toList : Try.prog.initOrder.toList = headA ++ ' ' :: (headB ++ ' ' :: (headC ++ ' ' :: headR)) := by rw [order_is, String.toList_ofList]

theorem wordsSigns_ne (c : Char) (r : List Char) (h : c ≠ ' ') (w : List Char) (ws : List (List Char)) (e : wordsSigns r = w :: ws) : wordsSigns (c :: r) = (c :: w) :: ws := by
  rw [wordsSigns]
  · rw [e]
  · exact fun e => h e

/-- A word without a blank in it is cut off whole. -/
theorem words_cut : ∀ (a r : List Char), (∀ c ∈ a, c ≠ ' ') → wordsSigns (a ++ ' ' :: r) = a :: wordsSigns r
  | [], r, _ => by simp [wordsSigns]
  | c :: a, r, h => wordsSigns_ne c _ (h c (by simp)) _ _ (words_cut a r fun x hx => h x (by simp [hx]))

theorem words_is : behindMainWord (wordsSigns Try.prog.initOrder.toList) = headC :: wordsSigns headR := by
  rw [order_toList, words_cut headA _ (by decide), words_cut headB _ (by decide), words_cut headC _ (by decide)]
  generalize wordsSigns headR = ws
  kernel_rfl

theorem strip_cut (ws : List (List Char)) : stripLifts liftWords (headC :: ws) = ([], headC :: ws) := by kernel_rfl

/-! Over a program that is a variable: so that nothing of the loaded program is reckoned here. -/
theorem make_of (P : Program) (ws : List (List Char)) (h : behindMainWord (wordsSigns P.initOrder.toList) = headC :: ws) : P.make = some .cut := by
  unfold Program.make
  rw [h]
  kernel_rfl
theorem liftsFinal_of (P : Program) (ws : List (List Char)) (h : behindMainWord (wordsSigns P.initOrder.toList) = headC :: ws) : P.liftsFinal = false := by
  unfold Program.liftsFinal Program.headLifts
  rw [h]
  kernel_rfl
theorem mayEnter_of (P : Program) (ws : List (List Char)) (h : behindMainWord (wordsSigns P.initOrder.toList) = headC :: ws) (h1 : P.laysLater = false) (h2 : P.bearsReflect = false) (h3 : P.doorFits [] = true) : P.mayEnter = true := by
  unfold Program.mayEnter
  rw [h]
  show (((headC == "gc".toList || headC == "spec".toList) && _) || _ || _) = true
  rw [strip_cut, h1, h2, h3]
  kernel_rfl

theorem mayEnter_ok : Try.prog.mayEnter = true := mayEnter_of Try.prog _ words_is (by kernel_rfl) (by kernel_rfl) (by kernel_rfl)
theorem liftsFinal_ok : Try.prog.liftsFinal = false := liftsFinal_of Try.prog _ words_is
theorem make_ok : Try.prog.make = some .cut := make_of Try.prog _ words_is
end Go.Proofs.Qxb6601715a
