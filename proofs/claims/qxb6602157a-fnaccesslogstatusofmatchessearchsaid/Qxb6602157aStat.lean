/-
  statusOf (24), ZZstatusOf (11): the contract; and the plain laws of status codes.
-/
import Derived.Test.Qxb6602157aStatus
namespace Go.Proofs.Qxb6602157a
open Go.RowKit

/-- The number of byte i. -/
def at_ (l : List UInt8) (i : Nat) : Nat := (l.getD i 0).toNat
/-- The status code that a text writes, or -1. -/
def stat (l : List UInt8) : Int :=
  if l.length = 3 ∧ (49 ≤ at_ l 0 ∧ at_ l 0 ≤ 53) ∧ (48 ≤ at_ l 1 ∧ at_ l 1 ≤ 57) ∧ (48 ≤ at_ l 2 ∧ at_ l 2 ≤ 57) then
    ((at_ l 0 : Int) - 48) * 100 + (((at_ l 1 : Int) - 48) * 10 + ((at_ l 2 : Int) - 48)) else -1

theorem byte_at (s : ByteArray) (p : Nat) (h : p < s.size) : s[p].toNat = at_ s.data.toList p := by
  have h' : p < s.data.size := h
  unfold at_
  rw [List.getD_eq_getElem?_getD, Array.getElem?_toList, Array.getElem?_eq_getElem h']
  rfl

theorem two_one (s : ByteArray) (w : World) (hs : s.size ≤ 4194304) (hi : 3 ≤ s.size) (t : Int) (ht : two (at_ s.data.toList 1) (at_ s.data.toList 2) = t) :
    Calls Try.prog 26 #[.string s, .int .i64 1] w fun e w' => e = .returned (.int .i64 t) ∧ ∃ n, w' = w.drewN n := by
  have h := two_any s 1 w hs hi
  rw [byte_at s 1 (by omega), byte_at s (1 + 1) (by omega), ht] at h
  exact h

theorem two_vals (a b : Nat) : two a b = -1 ∨ (0 ≤ two a b ∧ two a b ≤ 99) := by
  unfold two
  split
  · right; omega
  · left; rfl

set_option linter.unusedVariables false in
theorem statusOf_any (s : ByteArray) (w : World) (hs : s.size ≤ maxLen) :
    Calls Try.prog 24 #[.string s] w fun e w' => e = .returned (.int .i64 (stat s.data.toList)) ∧ ∃ n, w' = w.drewN n := by
  unfold maxLen at hs
  have hl : s.data.toList.length = s.size := by simp
  by_cases h3 : s.size = 3
  · have hp : 0 < s.size := by omega
    have e0 := byte_at s 0 hp
    have n3 : ((s.size : Int) != 3) = false := by simp [h3]
    have g1 : 3 ≤ s.size := by omega
    have g2 : s.size ≤ 3 := by omega
    have hv := two_vals (at_ s.data.toList 1) (at_ s.data.toList 2)
    generalize ht : two (at_ s.data.toList 1) (at_ s.data.toList 2) = t at hv
    have HT := two_one s w (by omega) g1 t ht
    have HTW := (show Hid _ from fun w => two_one s w (by omega) g1 t ht)
    clear HT
    by_cases c1 : (s[0].toNat : Int) < 49
    · have hr : stat s.data.toList = -1 := by unfold stat; rw [if_neg (by omega)]
      rw [hr]; clear hr hl e0 h3 hv ht
      go_enter Try.func24, Try.ntmps24
      go_wp2
      go_ret
      exact ⟨rfl, 0, rfl⟩
    by_cases c2 : (53 : Int) < (s[0].toNat : Int)
    · have hr : stat s.data.toList = -1 := by unfold stat; rw [if_neg (by omega)]
      rw [hr]; clear hr hl e0 h3 hv ht
      go_enter Try.func24, Try.ntmps24
      go_wp2
      go_ret
      exact ⟨rfl, 0, rfl⟩
    rcases hv with rfl | ⟨v1, v2⟩
    · have hr : stat s.data.toList = -1 := by
        unfold stat
        unfold two at ht
        split at ht
        · omega
        · rw [if_neg (fun h => by simp_all)]
      rw [hr]; clear hr hl e0 h3 ht
      go_enter Try.func24, Try.ntmps24
      go_wp2_with (go_at_call 26; refine Calls.mono (HTW.out _) ?_; rintro r w' ⟨rfl, n, rfl⟩)
      go_ret
      exact ⟨rfl, _, rfl⟩
    · have hr : stat s.data.toList = ((s[0].toNat : Int) - 48) * 100 + t := by
        unfold stat
        unfold two at ht
        split at ht
        · rw [if_pos (by omega), e0, ← ht]
        · omega
      have HR : Hid (stat s.data.toList = ((s[0].toNat : Int) - 48) * 100 + t) := hr
      clear hr hl e0 h3 ht
      go_enter Try.func24, Try.ntmps24
      go_wp2_with (go_at_call 26; refine Calls.mono (HTW.out _) ?_; rintro r w' ⟨rfl, n, rfl⟩)
      go_ret
      exact ⟨by rw [HR.out]; rfl, _, rfl⟩
  · have hr : stat s.data.toList = -1 := by unfold stat; rw [if_neg (by omega)]
    have n3 : ((s.size : Int) != 3) = true := by simp; omega
    rw [hr]; clear hr hl h3
    go_enter Try.func24, Try.ntmps24
    go_wp2
    go_ret
    exact ⟨rfl, 0, rfl⟩

theorem zzstatus_any (s : ByteArray) (w : World) (hs : s.size ≤ maxLen) :
    Calls Try.prog 11 #[.string s] w fun e w' => e = .returned (.int .i64 (stat s.data.toList)) ∧ ∃ n, w' = w.drewN n := by
  go_enter Try.func11, Try.ntmps11
  go_wp2_with (go_at_call 24; refine (statusOf_any s _ hs).mono ?_; rintro r w' ⟨rfl, n, rfl⟩)
  go_ret
  exact ⟨rfl, _, rfl⟩

/-! ### The plain laws -/
theorem stat_vals (l : List UInt8) : stat l = -1 ∨ (100 ≤ stat l ∧ stat l ≤ 599) := by
  unfold stat
  split
  · right; omega
  · left; rfl

theorem list3 {l : List UInt8} (h : l.length = 3) : l = [l.getD 0 0, l.getD 1 0, l.getD 2 0] := by
  match l, h with
  | [a, b, c], _ => rfl

theorem stat_inj {l l' : List UInt8} (h : 0 ≤ stat l) (e : stat l = stat l') : l = l' := by
  unfold stat at h e
  split at h
  · next c =>
    rw [if_pos c] at e
    split at e
    · next c' =>
      obtain ⟨c0, c1⟩ := c
      obtain ⟨d0, d1⟩ := c'
      unfold at_ at *
      rw [list3 c0, list3 d0]
      have e0 : l.getD 0 0 = l'.getD 0 0 := UInt8.toNat_inj.1 (by omega)
      have e1 : l.getD 1 0 = l'.getD 1 0 := UInt8.toNat_inj.1 (by omega)
      have e2 : l.getD 2 0 = l'.getD 2 0 := UInt8.toNat_inj.1 (by omega)
      rw [e0, e1, e2]
    · omega
  · omega
end Go.Proofs.Qxb6602157a
