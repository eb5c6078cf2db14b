/-
  THE PLAIN PART of decimal texts: no Go in sight.
-/
import Derived.Test.Qxb6602157aBytes
namespace Go.Proofs.Qxb6602157a

/-- What holds at the head of a round: from q + 1 on the 24 bytes hold the last digits of U; v is what is left. -/
def Inv (U : Nat) (B : List UInt8) (q v : Nat) : Prop :=
  q ≤ 23 ∧ B.length = 24 ∧ v = U / 10 ^ (23 - q) ∧ (∀ j, j < 23 - q → at_ B (23 - j) = 48 + U / 10 ^ j % 10) ∧ (q = 23 ∨ v ≠ 0)
/-- A decimal text. -/
def Dec (U : Nat) (t : List UInt8) : Prop :=
  ∃ k, t.length = k + 1 ∧ (∀ j, j ≤ k → at_ t (k - j) = 48 + U / 10 ^ j % 10) ∧ U / 10 ^ (k + 1) = 0 ∧ (k = 0 ∨ U / 10 ^ k ≠ 0)

theorem inv_start (U : Nat) : Inv U (List.replicate 24 0) 23 U :=
  ⟨by omega, by simp, by simp, fun j h => by omega, .inl rfl⟩

theorem inv_lo {U : Nat} {B : List UInt8} {q v : Nat} (h : Inv U B q v) (hU : U < 18446744073709551616) : 4 ≤ q := by
  obtain ⟨h1, _, h2, _, h3⟩ := h
  rcases h3 with rfl | h3
  · omega
  · rw [h2] at h3
    by_cases hq : 4 ≤ q
    · exact hq
    · exfalso
      apply h3
      apply Nat.div_eq_of_lt
      have : 10 ^ 20 ≤ 10 ^ (23 - q) := Nat.pow_le_pow_right (by omega) (by omega)
      have e : (10 : Nat) ^ 20 = 100000000000000000000 := by decide
      omega

theorem inv_le {U : Nat} {B : List UInt8} {q v : Nat} (h : Inv U B q v) : v ≤ U := by
  obtain ⟨_, _, h2, _⟩ := h
  rw [h2]; exact Nat.div_le_self _ _

theorem digits_step {U : Nat} {B : List UInt8} {q v : Nat} (h : Inv U B q v) (d : UInt8) (hd : d.toNat = 48 + v % 10) :
    v / 10 = U / 10 ^ (23 - q + 1) ∧ ∀ j, j < 23 - q + 1 → at_ (B.set q d) (23 - j) = 48 + U / 10 ^ j % 10 := by
  obtain ⟨h1, hl, h2, h3, _⟩ := h
  refine ⟨by rw [h2, Nat.div_div_eq_div_mul, Nat.pow_succ], fun j hj => ?_⟩
  by_cases e : j = 23 - q
  · subst e
    rw [show 23 - (23 - q) = q by omega, at_set_same B q (by omega), hd, h2]
  · rw [at_set_other B q (23 - j) (by omega), h3 j (by omega)]

theorem inv_step {U : Nat} {B : List UInt8} {q v : Nat} (h : Inv U B (q + 1) v) (d : UInt8) (hd : d.toNat = 48 + v % 10) (hv : v / 10 ≠ 0) : Inv U (B.set (q + 1) d) q (v / 10) := by
  obtain ⟨e1, e2⟩ := digits_step h d hd
  obtain ⟨h1, hl, _⟩ := h
  have e : 23 - (q + 1) + 1 = 23 - q := by omega
  rw [e] at e1 e2
  exact ⟨by omega, by simpa using hl, e1, e2, .inr hv⟩

theorem inv_done {U : Nat} {B : List UInt8} {q v : Nat} (h : Inv U B q v) (d : UInt8) (hd : d.toNat = 48 + v % 10) (hv : v / 10 = 0) : Dec U ((B.set q d).drop q) := by
  obtain ⟨e1, e2⟩ := digits_step h d hd
  obtain ⟨h1, hl, h2, _, h4⟩ := h
  refine ⟨23 - q, by simp [hl]; omega, fun j hj => ?_, by rw [← e1]; exact hv, ?_⟩
  · rw [at_drop, show q + (23 - q - j) = 23 - j by omega]
    exact e2 j (by omega)
  · rcases h4 with rfl | h4
    · left; rfl
    · right; rw [← h2]; exact h4

/-- THE PLAIN LAW: the status code that a decimal text writes. -/
theorem stat_dec {U : Nat} {t : List UInt8} (h : Dec U t) : stat t = if 100 ≤ U ∧ U ≤ 599 then (U : Int) else -1 := by
  obtain ⟨k, hl, hd, hz, hn⟩ := h
  match k, hl, hd, hz, hn with
  | 0, hl, hd, hz, hn =>
    unfold stat
    rw [if_neg (by omega), if_neg (by omega)]
  | 1, hl, hd, hz, hn =>
    unfold stat
    rw [if_neg (by omega), if_neg (by omega)]
  | 2, hl, hd, hz, hn =>
    have d0 := hd 0 (by omega)
    have d1 := hd 1 (by omega)
    have d2 := hd 2 (by omega)
    simp at d0 d1 d2 hz hn
    have e2 : (10 : Nat) ^ 2 = 100 := rfl
    have e3 : (10 : Nat) ^ 3 = 1000 := rfl
    unfold stat
    by_cases c : U ≤ 599
    · rw [if_pos (by omega), if_pos (by omega)]; omega
    · rw [if_neg (by omega), if_neg (by omega)]
  | k + 3, hl, hd, hz, hn =>
    have hbig : 1000 ≤ U := by
      rcases hn with hn | hn
      · omega
      · have hp : 10 ^ 3 ≤ 10 ^ (k + 3) := Nat.pow_le_pow_right (by omega) (by omega)
        have e3 : (10 : Nat) ^ 3 = 1000 := rfl
        by_cases hc : U < 10 ^ (k + 3)
        · exact absurd (Nat.div_eq_of_lt hc) hn
        · omega
    unfold stat
    rw [if_neg (by omega), if_neg (by omega)]

theorem stat_minus {t : List UInt8} (h : at_ t 0 = 45) : stat t = -1 := by
  unfold stat
  rw [if_neg (by omega)]
end Go.Proofs.Qxb6602157a
