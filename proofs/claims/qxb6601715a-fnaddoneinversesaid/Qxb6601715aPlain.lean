/-
  THE PLAIN PART: lists of bytes; no Go in sight. Adding one to a decimal text: the run of nines at its end turns to zeros, the byte before it is raised.
-/
import Derived.Laws.Strings
namespace Go.Proofs.Qxb6601715a

/-- The first m bytes of l, the rest zeros ('0'). -/
def cur (l : List UInt8) (m : Nat) : List UInt8 := l.take m ++ List.replicate (l.length - m) 48
/-- From m on l holds nines alone. -/
def RunFrom (l : List UInt8) (m : Nat) : Prop := ∀ j, m ≤ j → j < l.length → l.getD j 0 = 57
/-- What adding one gives where the run of nines begins at m. -/
def out (l : List UInt8) : Nat → List UInt8
  | 0 => 49 :: List.replicate l.length 48
  | p + 1 => l.take p ++ (l.getD p 0 + 1) :: List.replicate (l.length - (p + 1)) 48
/-- The run of nines at the end of l begins just at m. -/
def Stop (l : List UInt8) (m : Nat) : Prop := m ≤ l.length ∧ RunFrom l m ∧ ∀ p, m = p + 1 → l.getD p 0 ≠ 57

theorem stop_le {l : List UInt8} {m m' : Nat} (h : Stop l m) (h' : Stop l m') : m' ≤ m := by
  obtain ⟨_, h2, _⟩ := h
  obtain ⟨h1', _, h3'⟩ := h'
  by_cases hlt : m < m'
  · exact absurd (h2 (m' - 1) (by omega) (by omega)) (h3' (m' - 1) (by omega))
  · omega
theorem stop_unique {l : List UInt8} {m m' : Nat} (h : Stop l m) (h' : Stop l m') : m = m' :=
  Nat.le_antisymm (stop_le h' h) (stop_le h h')

theorem cur_len (l : List UInt8) (m : Nat) (h : m ≤ l.length) : (cur l m).length = l.length := by
  simp [cur]; omega
theorem cur_full (l : List UInt8) : cur l l.length = l := by simp [cur]
theorem cur_zero (l : List UInt8) : cur l 0 = List.replicate l.length 48 := by simp [cur]
theorem take_set_last (l : List UInt8) (p : Nat) (v : UInt8) (h : p < l.length) : (l.take (p + 1)).set p v = l.take p ++ [v] := by
  rw [List.take_succ_eq_append_getElem h, List.set_append_right _ _ (by simp; omega)]
  simp [Nat.min_eq_left (Nat.le_of_lt h)]
theorem cur_set (l : List UInt8) (p : Nat) (v : UInt8) (h : p < l.length) : (cur l (p + 1)).set p v = l.take p ++ v :: List.replicate (l.length - (p + 1)) 48 := by
  unfold cur
  rw [List.set_append_left _ _ (by simp; omega), take_set_last l p v h]
  simp
theorem cur_step (l : List UInt8) (p : Nat) (h : p < l.length) : (cur l (p + 1)).set p 48 = cur l p := by
  rw [cur_set l p 48 h]
  unfold cur
  rw [show l.length - p = (l.length - (p + 1)) + 1 by omega, List.replicate_succ]
theorem cur_get (l : List UInt8) (p : Nat) (h : p < l.length) : (cur l (p + 1)).getD p 0 = l.getD p 0 := by
  unfold cur
  simp only [List.getD_eq_getElem?_getD]
  rw [List.getElem?_append_left (by simp; omega), List.getElem?_take_of_lt (by omega)]
theorem run_step (l : List UInt8) (p : Nat) (h : RunFrom l (p + 1)) (h9 : l.getD p 0 = 57) : RunFrom l p := by
  intro j hj hl
  by_cases e : j = p
  · subst e; exact h9
  · exact h j (by omega) hl
theorem run_end (l : List UInt8) : RunFrom l l.length := fun j h h' => by omega
theorem out_len (l : List UInt8) (m : Nat) (h : m ≤ l.length) : (out l m).length ≤ l.length + 1 := by
  match m with
  | 0 => simp [out]
  | p + 1 => simp [out]; omega
end Go.Proofs.Qxb6601715a
