/-
  THE PROGRAM's HEAD, SIGN BY SIGN: what 'joinedFacts' asks of it in three of its facts ('mayEnter', 'liftsFinal', 'make'). Asked all at once the kernel decodes the string of 776 signs byte by byte and cuts it into words, and outgrows its lid of memory: here the head is told by its signs' numbers, and its first three words are cut off by a lemma.
-/
import Derived.Test.Qxb6602157aRows
import Derived.ProofKit
namespace Go.Proofs.Qxb6602157a

/-- The first word of the head, the second, and what stands behind the third ('cut'). -/
def headA : List Char := ([104, 97, 114, 110, 101, 115, 115] : List Nat).map Char.ofNat
def headB : List Char := ([53, 101, 49, 55, 57, 52, 56, 52, 101, 49, 100, 55, 99, 55, 56, 101, 55, 52, 53, 53, 50, 56, 50, 102, 54, 52, 56, 101, 100, 52, 55, 48, 48, 56, 54, 99, 102, 100, 49, 55,
  98, 97, 48, 102, 48, 101, 53, 55, 53, 101, 48, 55, 55, 55, 102, 48, 48, 99, 54, 51, 54, 55, 49, 51] : List Nat).map Char.ofNat
def headC : List Char := ([99, 117, 116] : List Nat).map Char.ofNat
def headR : List Char := ([
  97, 116, 32, 101, 120, 97, 109, 112, 108, 101, 46, 99, 111, 109, 47, 109, 101, 116, 101, 45, 98, 121, 45, 107, 101, 121, 47, 109, 101, 116, 101, 45, 98, 121, 45, 107, 101, 121, 47, 122,
  122, 108, 97, 119, 115, 95, 105, 110, 116, 101, 114, 110, 97, 108, 95, 97, 99, 99, 101, 115, 115, 108, 111, 103, 95, 98, 49, 46, 70, 110, 65, 99, 99, 101, 115, 115, 108, 111, 103, 83,
  116, 97, 116, 117, 115, 79, 102, 77, 97, 116, 99, 104, 101, 115, 83, 101, 97, 114, 99, 104, 32, 101, 120, 97, 109, 112, 108, 101, 46, 99, 111, 109, 47, 109, 101, 116, 101, 45, 98, 121,
  45, 107, 101, 121, 47, 109, 101, 116, 101, 45, 98, 121, 45, 107, 101, 121, 47, 122, 122, 108, 97, 119, 115, 95, 105, 110, 116, 101, 114, 110, 97, 108, 95, 97, 99, 99, 101, 115, 115, 108,
  111, 103, 95, 98, 49, 46, 70, 110, 65, 99, 99, 101, 115, 115, 108, 111, 103, 83, 116, 97, 116, 117, 115, 79, 102, 82, 101, 97, 100, 115, 68, 101, 99, 105, 109, 97, 108, 32, 101, 120,
  97, 109, 112, 108, 101, 46, 99, 111, 109, 47, 109, 101, 116, 101, 45, 98, 121, 45, 107, 101, 121, 47, 109, 101, 116, 101, 45, 98, 121, 45, 107, 101, 121, 47, 122, 122, 108, 97, 119, 115,
  95, 105, 110, 116, 101, 114, 110, 97, 108, 95, 97, 99, 99, 101, 115, 115, 108, 111, 103, 95, 98, 49, 46, 70, 110, 65, 99, 99, 101, 115, 115, 108, 111, 103, 83, 116, 97, 116, 117, 115,
  79, 102, 79, 110, 101, 84, 101, 120, 116, 65, 67, 111, 100, 101, 32, 101, 120, 97, 109, 112, 108, 101, 46, 99, 111, 109, 47, 109, 101, 116, 101, 45, 98, 121, 45, 107, 101, 121, 47, 109,
  101, 116, 101, 45, 98, 121, 45, 107, 101, 121, 47, 122, 122, 108, 97, 119, 115, 95, 105, 110, 116, 101, 114, 110, 97, 108, 95, 97, 99, 99, 101, 115, 115, 108, 111, 103, 95, 98, 49, 46,
  70, 110, 65, 99, 99, 101, 115, 115, 108, 111, 103, 84, 119, 111, 68, 105, 103, 105, 116, 115, 82, 101, 97, 100, 115, 87, 114, 105, 116, 116, 101, 110, 80, 97, 105, 114, 32, 101, 120, 97,
  109, 112, 108, 101, 46, 99, 111, 109, 47, 109, 101, 116, 101, 45, 98, 121, 45, 107, 101, 121, 47, 109, 101, 116, 101, 45, 98, 121, 45, 107, 101, 121, 47, 122, 122, 108, 97, 119, 115, 95,
  105, 110, 116, 101, 114, 110, 97, 108, 95, 97, 99, 99, 101, 115, 115, 108, 111, 103, 95, 98, 49, 46, 70, 110, 65, 99, 99, 101, 115, 115, 108, 111, 103, 69, 110, 99, 108, 111, 115, 101,
  100, 77, 97, 116, 99, 104, 101, 115, 83, 99, 97, 110, 32, 101, 120, 97, 109, 112, 108, 101, 46, 99, 111, 109, 47, 109, 101, 116, 101, 45, 98, 121, 45, 107, 101, 121, 47, 109, 101, 116,
  101, 45, 98, 121, 45, 107, 101, 121, 47, 122, 122, 108, 97, 119, 115, 95, 105, 110, 116, 101, 114, 110, 97, 108, 95, 97, 99, 99, 101, 115, 115, 108, 111, 103, 95, 98, 49, 46, 70, 110,
  65, 99, 99, 101, 115, 115, 108, 111, 103, 69, 110, 99, 108, 111, 115, 101, 100, 82, 101, 97, 100, 115, 65, 110, 69, 115, 99, 97, 112, 101, 100, 70, 105, 101, 108, 100, 32, 101, 120, 97,
  109, 112, 108, 101, 46, 99, 111, 109, 47, 109, 101, 116, 101, 45, 98, 121, 45, 107, 101, 121, 47, 109, 101, 116, 101, 45, 98, 121, 45, 107, 101, 121, 47, 122, 122, 108, 97, 119, 115, 95,
  105, 110, 116, 101, 114, 110, 97, 108, 95, 97, 99, 99, 101, 115, 115, 108, 111, 103, 95, 98, 49, 46, 70, 110, 65, 99, 99, 101, 115, 115, 108, 111, 103, 69, 110, 99, 108, 111, 115, 101,
  100, 73, 103, 110, 111, 114, 101, 115, 87, 104, 97, 116, 70, 111, 108, 108, 111, 119, 115] : List Nat).map Char.ofNat

theorem order_is : Try.prog.initOrder = String.ofList (headA ++ ' ' :: (headB ++ ' ' :: (headC ++ ' ' :: headR))) := by kernel_rfl
theorem order_toList : Try.prog.initOrder.toList = headA ++ ' ' :: (headB ++ ' ' :: (headC ++ ' ' :: headR)) := by rw [order_is, String.toList_ofList]

theorem wordsSigns_ne (c : Char) (r : List Char) (h : c ≠ ' ') (w : List Char) (ws : List (List Char)) (e : wordsSigns r = w :: ws) : wordsSigns (c :: r) = (c :: w) :: ws := by
  rw [wordsSigns]
  · rw [e]
  · exact fun e => h e

/-- A word without a blank in it is cut off whole. -/
theorem words_cut : ∀ (a r : List Char), (∀ c ∈ a, c ≠ ' ') → wordsSigns (a ++ ' ' :: r) = a :: wordsSigns r
  | [], r, _ => by simp [wordsSigns]
  | c :: a, r, h => wordsSigns_ne c _ (h c (by simp)) _ _ (words_cut a r fun x hx => h x (by simp [hx]))

theorem words_is : behindMainWord (wordsSigns Try.prog.initOrder.toList) = headC :: wordsSigns headR := by
  rw [order_toList, words_cut headA _ (by decide), words_cut headB _ (by decide), words_cut headC _ (by decide)]
  generalize wordsSigns headR = ws
  kernel_rfl

theorem strip_cut (ws : List (List Char)) : stripLifts liftWords (headC :: ws) = ([], headC :: ws) := by kernel_rfl

/-! Over a program that is a variable: so that nothing of the loaded program is reckoned here. -/
theorem make_of (P : Program) (ws : List (List Char)) (h : behindMainWord (wordsSigns P.initOrder.toList) = headC :: ws) : P.make = some .cut := by
  unfold Program.make
  rw [h]
  kernel_rfl
theorem liftsFinal_of (P : Program) (ws : List (List Char)) (h : behindMainWord (wordsSigns P.initOrder.toList) = headC :: ws) : P.liftsFinal = false := by
  unfold Program.liftsFinal Program.headLifts
  rw [h]
  kernel_rfl
theorem mayEnter_of (P : Program) (ws : List (List Char)) (h : behindMainWord (wordsSigns P.initOrder.toList) = headC :: ws) (h1 : P.laysLater = false) (h2 : P.bearsReflect = false) (h3 : P.doorFits [] = true) : P.mayEnter = true := by
  unfold Program.mayEnter
  rw [h]
  show (((headC == "gc".toList || headC == "spec".toList) && _) || _ || _) = true
  rw [strip_cut, h1, h2, h3]
  kernel_rfl

theorem mayEnter_ok : Try.prog.mayEnter = true := mayEnter_of Try.prog _ words_is (by kernel_rfl) (by kernel_rfl) (by kernel_rfl)
theorem liftsFinal_ok : Try.prog.liftsFinal = false := liftsFinal_of Try.prog _ words_is
theorem make_ok : Try.prog.make = some .cut := make_of Try.prog _ words_is
end Go.Proofs.Qxb6602157a
