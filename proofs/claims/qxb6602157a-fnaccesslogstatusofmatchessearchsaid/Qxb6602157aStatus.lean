/-
  twoDigits (26), ZZtwoDigits (17), statusOf (24), ZZstatusOf (11): the contracts.
-/
import Derived.Test.Qxb6602157aRows
import Derived.WalkKit
import Derived.WalkSpells
import Derived.WalkLawsBesides
import Derived.Deep.QuietTactic
import Derived.BigQuiet
namespace Go.Proofs.Qxb6602157a
open Go.RowKit

/-- The number that two bytes write, or -1. -/
def two (a b : Nat) : Int := if (48 ≤ a ∧ a ≤ 57) ∧ (48 ≤ b ∧ b ≤ 57) then ((a : Int) - 48) * 10 + ((b : Int) - 48) else -1

theorem two_core (s : ByteArray) (i : Nat) (w : World) (hs : s.size ≤ 4194304) (hi : i + 2 ≤ s.size) (a b : Nat) (ha : a < 256) (hb : b < 256)
    (h2 : (s.extract i (i + 2)).size = 2) (ea : ∀ h, ((s.extract i (i + 2))[0]'h).toNat = a) (eb : ∀ h, ((s.extract i (i + 2))[1]'h).toNat = b) :
    Calls Try.prog 26 #[.string s, .int .i64 (i : Int)] w fun e w' => e = .returned (.int .i64 (two a b)) ∧ ∃ n, w' = w.drewN n := by
  by_cases a1 : 48 ≤ a
  · by_cases a2 : a ≤ 57
    · by_cases b1 : 48 ≤ b
      · by_cases b2 : b ≤ 57
        · have hr : two a b = ((a : Int) - 48) * 10 + ((b : Int) - 48) := by simp [two, a1, a2, b1, b2]
          rw [hr]; clear hr
          go_enter Try.func26, Try.ntmps26
          go_wp2
          go_quiet (fail)
          go_wp2
          go_ret
          exact ⟨rfl, _, rfl⟩
        · have hr : two a b = -1 := by simp [two, b2]
          rw [hr]; clear hr
          go_enter Try.func26, Try.ntmps26
          go_wp2
          go_quiet (fail)
          go_wp2
          go_ret
          exact ⟨rfl, _, rfl⟩
      · have hr : two a b = -1 := by simp [two, b1]
        rw [hr]; clear hr
        go_enter Try.func26, Try.ntmps26
        go_wp2
        go_quiet (fail)
        go_wp2
        go_ret
        exact ⟨rfl, _, rfl⟩
    · have hr : two a b = -1 := by simp [two, a2]
      rw [hr]; clear hr
      go_enter Try.func26, Try.ntmps26
      go_wp2
      go_quiet (fail)
      go_wp2
      go_ret
      exact ⟨rfl, _, rfl⟩
  · have hr : two a b = -1 := by simp [two, a1]
    rw [hr]; clear hr
    go_enter Try.func26, Try.ntmps26
    go_wp2
    go_quiet (fail)
    go_wp2
    go_ret
    exact ⟨rfl, _, rfl⟩

theorem two_any (s : ByteArray) (i : Nat) (w : World) (hs : s.size ≤ 4194304) (hi : i + 2 ≤ s.size) :
    Calls Try.prog 26 #[.string s, .int .i64 (i : Int)] w fun e w' => e = .returned (.int .i64 (two s[i].toNat s[i + 1].toNat)) ∧ ∃ n, w' = w.drewN n := by
  refine two_core s i w hs hi _ _ (UInt8.toNat_lt _) (UInt8.toNat_lt _) (by rw [ByteArray.size_extract]; omega) ?_ ?_
  · intro h; rw [ByteArray.getElem_extract]; simp
  · intro h; rw [ByteArray.getElem_extract]

theorem zztwo_any (s : ByteArray) (i : Nat) (w : World) (hs : s.size ≤ 4194304) (hi : i + 2 ≤ s.size) :
    Calls Try.prog 17 #[.string s, .int .i64 (i : Int)] w fun e w' => e = .returned (.int .i64 (two s[i].toNat s[i + 1].toNat)) ∧ ∃ n, w' = w.drewN n := by
  generalize hx : two s[i].toNat s[i + 1].toNat = x
  have HX : Hid (two s[i].toNat s[i + 1].toNat = x) := hx
  clear hx
  go_enter Try.func17, Try.ntmps17
  go_wp2_with (go_at_call 26; refine (two_any s i _ hs hi).mono ?_; rintro r w' ⟨rfl, n, rfl⟩; rw [HX.out])
  go_ret
  exact ⟨rfl, _, rfl⟩
end Go.Proofs.Qxb6602157a
