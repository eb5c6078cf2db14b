/-
  THE PLAIN PART of the inverse law: digits, canonical decimals, taking one away by borrowing; no Go in sight.
-/
import Derived.Test.Qxb6601715aPlain
namespace Go.Proofs.Qxb6601715a

/-- The first m bytes of l, the rest nines ('9'). -/
def fil (l : List UInt8) (m : Nat) : List UInt8 := l.take m ++ List.replicate (l.length - m) 57
/-- From m on l holds zeros alone. -/
def Run0 (l : List UInt8) (m : Nat) : Prop := ∀ j, m ≤ j → j < l.length → l.getD j 0 = 48
/-- The run of zeros at the end of l begins just at m. -/
def Stop0 (l : List UInt8) (m : Nat) : Prop := m ≤ l.length ∧ Run0 l m ∧ ∀ p, m = p + 1 → l.getD p 0 ≠ 48
/-- Behind the borrow: the byte at p lowered, nines behind it. -/
def low (l : List UInt8) (p : Nat) : List UInt8 := l.take p ++ (l.getD p 0 - 1) :: List.replicate (l.length - (p + 1)) 57
/-- What taking one away gives where the run of zeros begins at m. -/
def prd (l : List UInt8) : Nat → List UInt8
  | 0 => []
  | p + 1 => if 1 < l.length ∧ (low l p).getD 0 0 = 48 then (low l p).drop 1 else low l p

theorem stop0_le {l : List UInt8} {m m' : Nat} (h : Stop0 l m) (h' : Stop0 l m') : m' ≤ m := by
  obtain ⟨_, h2, _⟩ := h
  obtain ⟨h1', _, h3'⟩ := h'
  by_cases hlt : m < m'
  · exact absurd (h2 (m' - 1) (by omega) (by omega)) (h3' (m' - 1) (by omega))
  · omega
theorem stop0_unique {l : List UInt8} {m m' : Nat} (h : Stop0 l m) (h' : Stop0 l m') : m = m' :=
  Nat.le_antisymm (stop0_le h' h) (stop0_le h h')

theorem fil_len (l : List UInt8) (m : Nat) (h : m ≤ l.length) : (fil l m).length = l.length := by
  simp [fil]; omega
theorem fil_full (l : List UInt8) : fil l l.length = l := by simp [fil]
theorem fil_set (l : List UInt8) (p : Nat) (v : UInt8) (h : p < l.length) : (fil l (p + 1)).set p v = l.take p ++ v :: List.replicate (l.length - (p + 1)) 57 := by
  unfold fil
  rw [List.set_append_left _ _ (by simp; omega), take_set_last l p v h]
  simp
theorem fil_step (l : List UInt8) (p : Nat) (h : p < l.length) : (fil l (p + 1)).set p 57 = fil l p := by
  rw [fil_set l p 57 h]
  unfold fil
  rw [show l.length - p = (l.length - (p + 1)) + 1 by omega, List.replicate_succ]
theorem fil_get (l : List UInt8) (p : Nat) (h : p < l.length) : (fil l (p + 1)).getD p 0 = l.getD p 0 := by
  unfold fil
  simp only [List.getD_eq_getElem?_getD]
  rw [List.getElem?_append_left (by simp; omega), List.getElem?_take_of_lt (by omega)]
theorem run0_step (l : List UInt8) (p : Nat) (h : Run0 l (p + 1)) (h9 : l.getD p 0 = 48) : Run0 l p := by
  intro j hj hl
  by_cases e : j = p
  · subst e; exact h9
  · exact h j (by omega) hl
theorem run0_end (l : List UInt8) : Run0 l l.length := fun j h h' => by omega
theorem low_len (l : List UInt8) (p : Nat) (h : p < l.length) : (low l p).length = l.length := by
  simp [low]; omega

/-! ### Digits and canonical decimals -/
def Dig (c : UInt8) : Prop := 48 ≤ c.toNat ∧ c.toNat ≤ 57
/-- The first k bytes of l are digits. -/
def DigTo (l : List UInt8) (k : Nat) : Prop := ∀ j, j < k → Dig (l.getD j 0)
/-- A canonical decimal: not empty, digits alone, no leading zero but '0' itself. -/
def Canon (l : List UInt8) : Prop := l.length ≠ 0 ∧ DigTo l l.length ∧ (l.length = 1 ∨ l.getD 0 0 ≠ 48)

theorem digTo_step (l : List UInt8) (k : Nat) (h : DigTo l k) (hk : Dig (l.getD k 0)) : DigTo l (k + 1) := by
  intro j hj
  by_cases e : j = k
  · subst e; exact hk
  · exact h j (by omega)

theorem get_out_lt (l : List UInt8) (p j : Nat) (hp : p < l.length) (h : j < p) : (out l (p + 1)).getD j 0 = l.getD j 0 := by
  simp only [out, List.getD_eq_getElem?_getD]
  rw [List.getElem?_append_left (by simp; omega), List.getElem?_take_of_lt (by omega)]
theorem get_out_at (l : List UInt8) (p : Nat) (hp : p < l.length) : (out l (p + 1)).getD p 0 = l.getD p 0 + 1 := by
  simp only [out, List.getD_eq_getElem?_getD]
  rw [List.getElem?_append_right (by simp; omega)]
  simp [Nat.min_eq_left (Nat.le_of_lt hp)]
theorem get_out_gt (l : List UInt8) (p j : Nat) (hp : p < l.length) (h : p < j) (hj : j < l.length) : (out l (p + 1)).getD j 0 = 48 := by
  simp only [out, List.getD_eq_getElem?_getD]
  rw [List.getElem?_append_right (by simp; omega)]
  simp only [List.length_take, Nat.min_eq_left (Nat.le_of_lt hp)]
  rw [show j - p = (j - (p + 1)) + 1 by omega, List.getElem?_cons_succ, List.getElem?_replicate, if_pos (by omega)]
  rfl
theorem out_len_succ (l : List UInt8) (p : Nat) (hp : p < l.length) : (out l (p + 1)).length = l.length := by
  simp [out]; omega
theorem out_len_zero (l : List UInt8) : (out l 0).length = l.length + 1 := by simp [out]
theorem get_zero_zero (l : List UInt8) : (out l 0).getD 0 0 = 49 := rfl
theorem get_zero_succ (l : List UInt8) (j : Nat) (h : j < l.length) : (out l 0).getD (j + 1) 0 = 48 := by
  simp only [out, List.getD_eq_getElem?_getD, List.getElem?_cons_succ, List.getElem?_replicate, if_pos h]
  rfl

theorem succ_dig {c : UInt8} (h : Dig c) (h9 : c ≠ 57) : (c + 1).toNat = c.toNat + 1 ∧ c.toNat < 57 := by
  obtain ⟨h1, h2⟩ := h
  have h3 : c.toNat ≠ 57 := fun e => h9 (UInt8.toNat_inj.1 e)
  have : (c + 1).toNat = (c.toNat + 1) % 256 := by simp [UInt8.toNat_add]
  omega

theorem canon_out {l : List UInt8} {m : Nat} (h : Canon l) (hs : Stop l m) : Canon (out l m) := by
  obtain ⟨h0, hd, hz⟩ := h
  obtain ⟨hm, hr, hn⟩ := hs
  match m, hm, hr, hn with
  | 0, hm, hr, hn =>
    refine ⟨by rw [out_len_zero]; omega, ?_, .inr (by rw [get_zero_zero]; decide)⟩
    rw [out_len_zero]
    intro j hj
    match j with
    | 0 => rw [get_zero_zero]; exact ⟨by decide, by decide⟩
    | j + 1 => rw [get_zero_succ l j (by omega)]; exact ⟨by decide, by decide⟩
  | p + 1, hm, hr, hn =>
    have hp : p < l.length := by omega
    have hpd := hd p hp
    obtain ⟨e1, e2⟩ := succ_dig hpd (hn p rfl)
    refine ⟨by rw [out_len_succ l p hp]; omega, ?_, ?_⟩
    · rw [out_len_succ l p hp]
      intro j hj
      rcases Nat.lt_trichotomy j p with h | h | h
      · rw [get_out_lt l p j hp h]; exact hd j hj
      · subst h; rw [get_out_at l j hp]; exact ⟨by have := hpd.1; omega, by omega⟩
      · rw [get_out_gt l p j hp h hj]; exact ⟨by decide, by decide⟩
    · rw [out_len_succ l p hp]
      rcases hz with hz | hz
      · exact .inl hz
      · refine .inr ?_
        match p, hp, hpd, e1, e2 with
        | 0, hp, hpd, e1, e2 =>
          rw [get_out_at l 0 hp]
          intro e
          have := congrArg UInt8.toNat e
          rw [e1] at this
          have h1 := hpd.1
          have : (48 : UInt8).toNat = 48 := rfl
          omega
        | p + 1, hp, hpd, e1, e2 => rw [get_out_lt l (p + 1) 0 hp (by omega)]; exact hz

/-- The answer is the greater: longer, or equal up to p and greater there. -/
theorem greater_out {l : List UInt8} {m : Nat} (h : Canon l) (hs : Stop l m) :
    l.length < (out l m).length ∨ ((out l m).length = l.length ∧ ∃ p, p < l.length ∧ (∀ j, j < p → (out l m).getD j 0 = l.getD j 0) ∧ (l.getD p 0).toNat < ((out l m).getD p 0).toNat) := by
  obtain ⟨h0, hd, hz⟩ := h
  obtain ⟨hm, hr, hn⟩ := hs
  match m, hm, hr, hn with
  | 0, hm, hr, hn => exact .inl (by rw [out_len_zero]; omega)
  | p + 1, hm, hr, hn =>
    have hp : p < l.length := by omega
    obtain ⟨e1, e2⟩ := succ_dig (hd p hp) (hn p rfl)
    exact .inr ⟨out_len_succ l p hp, p, hp, fun j hj => get_out_lt l p j hp hj, by rw [get_out_at l p hp]; omega⟩

theorem ext_getD {a b : List UInt8} (hl : a.length = b.length) (h : ∀ j, j < a.length → a.getD j 0 = b.getD j 0) : a = b := by
  apply List.ext_getElem hl
  intro i h1 h2
  have := h i h1
  simpa [List.getD_eq_getElem?_getD, h1, h2] using this

theorem low_lt (l : List UInt8) (p j : Nat) (hp : p < l.length) (h : j < p) : (low l p).getD j 0 = l.getD j 0 := by
  simp only [low, List.getD_eq_getElem?_getD]
  rw [List.getElem?_append_left (by simp; omega), List.getElem?_take_of_lt (by omega)]
theorem low_at (l : List UInt8) (p : Nat) (hp : p < l.length) : (low l p).getD p 0 = l.getD p 0 - 1 := by
  simp only [low, List.getD_eq_getElem?_getD]
  rw [List.getElem?_append_right (by simp; omega)]
  simp [Nat.min_eq_left (Nat.le_of_lt hp)]
theorem low_gt (l : List UInt8) (p j : Nat) (hp : p < l.length) (h : p < j) (hj : j < l.length) : (low l p).getD j 0 = 57 := by
  simp only [low, List.getD_eq_getElem?_getD]
  rw [List.getElem?_append_right (by simp; omega)]
  simp only [List.length_take, Nat.min_eq_left (Nat.le_of_lt hp)]
  rw [show j - p = (j - (p + 1)) + 1 by omega, List.getElem?_cons_succ, List.getElem?_replicate, if_pos (by omega)]
  rfl

/-- TAKING ONE AWAY GIVES THE TEXT BACK. -/
theorem prd_out {l : List UInt8} {m m' : Nat} (h : Canon l) (hs : Stop l m) (hs' : Stop0 (out l m) m') : prd (out l m) m' = l := by
  obtain ⟨h0, hd, hz⟩ := h
  obtain ⟨hm, hr, hn⟩ := hs
  match m, hm, hr, hn with
  | 0, hm, hr, hn =>
    have hst : Stop0 (out l 0) 1 := by
      refine ⟨by rw [out_len_zero]; omega, fun j h1 h2 => ?_, fun p hp => ?_⟩
      · obtain ⟨j, rfl⟩ : ∃ i, j = i + 1 := ⟨j - 1, by omega⟩
        exact get_zero_succ l j (by rw [out_len_zero] at h2; omega)
      · obtain rfl : p = 0 := by omega
        simp [out]
    obtain rfl := stop0_unique hst hs'
    have e : low (out l 0) 0 = 48 :: List.replicate l.length 57 := by
      simp [low, out]
    rw [prd, e, if_pos ⟨by rw [out_len_zero]; omega, rfl⟩]
    refine ext_getD (by simp) fun j hj => ?_
    have hj' : j < l.length := by simpa using hj
    rw [hr j (by omega) hj']
    simp [List.getD_eq_getElem?_getD, hj']
  | p + 1, hm, hr, hn =>
    have hp : p < l.length := by omega
    have hpd := hd p hp
    obtain ⟨e1, e2⟩ := succ_dig hpd (hn p rfl)
    have hst : Stop0 (out l (p + 1)) (p + 1) := by
      refine ⟨by rw [out_len_succ l p hp]; omega, fun j h1 h2 => ?_, fun q hq => ?_⟩
      · exact get_out_gt l p j hp (by omega) (by rw [out_len_succ l p hp] at h2; omega)
      · obtain rfl : p = q := by omega
        rw [get_out_at l p hp]
        intro e
        have := congrArg UInt8.toNat e
        have h1 := hpd.1
        rw [e1] at this
        have : (48 : UInt8).toNat = 48 := rfl
        omega
    obtain rfl := stop0_unique hst hs'
    have hol := out_len_succ l p hp
    have e : low (out l (p + 1)) p = l := by
      refine ext_getD (by rw [low_len _ _ (by omega), hol]) fun j hj => ?_
      rw [low_len _ _ (by omega), hol] at hj
      rcases Nat.lt_trichotomy j p with h | h | h
      · rw [low_lt _ p j (by omega) h, get_out_lt l p j hp h]
      · subst h
        rw [low_at _ j (by omega), get_out_at l j hp]
        simp
      · rw [low_gt _ p j (by omega) h (by omega), hr j (by omega) hj]
    rw [prd, e, if_neg]
    rw [hol]
    rintro ⟨h1, h2⟩
    rcases hz with hz | hz
    · omega
    · exact hz h2
end Go.Proofs.Qxb6601715a
