/-
  THE CALLEES' CONTRACTS for the two laws over compareCore: ZZVersion (18), ZZcompareCore (17), compareCore (33).
-/
import Derived.Test.Qxb6601715aRows
import Derived.WalkKit
import Derived.WalkSpells
import Derived.WalkLawsBesides
import Derived.RegionTactic
import Derived.Deep.QuietTactic
import Derived.BigQuiet
import Derived.RowKit3
namespace Go.Proofs.Qxb6601715a
open Go.RowKit

/-- The cells of a new Version with three numbers. -/
def verCells (a b c : Int) : Array Value :=
  #[.string ByteArray.empty, .string ByteArray.empty, .int .u64 a, .int .u64 b, .int .u64 c, .int .i64 0, .int .i64 0, .int .u64 0]

theorem ver_any (a b c : Int) (w : World) :
    Calls Try.prog 18 #[.int .u64 a, .int .u64 b, .int .u64 c] w fun e w' =>
      e = .returned (.pointer (some ⟨w.heap.size, 0, none⟩)) ∧ w' = w.alloc (.cells (verCells a b c) 38) := by
  go_enter Try.func18, Try.ntmps18
  go_wp2
  go_ret
  exact ⟨rfl, rfl⟩

/-- The plain order of two triples: -1, 0, 1. -/
def cmp3 (a b c d e f : Int) : Int :=
  if a = d then (if b = e then (if c < f then -1 else if f < c then 1 else 0) else (if b < e then -1 else 1)) else (if a < d then -1 else 1)

theorem core_any (a b c d e f : Int) (p q : Nat) (w : World)
    (h2 : w.cell? ⟨p, 2, none⟩ = some (.int .u64 a)) (h3 : w.cell? ⟨p, 3, none⟩ = some (.int .u64 b)) (h4 : w.cell? ⟨p, 4, none⟩ = some (.int .u64 c))
    (k2 : w.cell? ⟨q, 2, none⟩ = some (.int .u64 d)) (k3 : w.cell? ⟨q, 3, none⟩ = some (.int .u64 e)) (k4 : w.cell? ⟨q, 4, none⟩ = some (.int .u64 f)) :
    Calls Try.prog 33 #[.pointer (some ⟨p, 0, none⟩), .pointer (some ⟨q, 0, none⟩)] w fun r w' =>
      r = .returned (.int .i64 (cmp3 a b c d e f)) ∧ ∃ n, w' = w.drewN n := by
  by_cases e1 : a = d
  · subst e1
    by_cases e2 : b = e
    · subst e2
      by_cases l1 : c < f
      · have hr : cmp3 a b c a b f = -1 := by simp [cmp3, l1]
        rw [hr]; clear hr
        go_enter Try.func33, Try.ntmps33
        go_wp2
        go_quiet (fail)
        go_wp2
        go_quiet (fail)
        go_wp2
        go_quiet (fail)
        go_wp2
        go_ret
        exact ⟨rfl, _, rfl⟩
      · by_cases l2 : f < c
        · have hr : cmp3 a b c a b f = 1 := by simp [cmp3, l1, l2]
          rw [hr]; clear hr
          go_enter Try.func33, Try.ntmps33
          go_wp2
          go_quiet (fail)
          go_wp2
          go_quiet (fail)
          go_wp2
          go_quiet (fail)
          go_wp2
          go_ret
          exact ⟨rfl, _, rfl⟩
        · have hr : cmp3 a b c a b f = 0 := by simp [cmp3, l1, l2]
          rw [hr]; clear hr
          go_enter Try.func33, Try.ntmps33
          go_wp2
          go_quiet (fail)
          go_wp2
          go_quiet (fail)
          go_wp2
          go_quiet (fail)
          go_wp2
          go_ret
          exact ⟨rfl, _, rfl⟩
    · have e2' : (b == e) = false := by simpa using e2
      by_cases l1 : b < e
      · have hr : cmp3 a b c a e f = -1 := by simp [cmp3, e2, l1]
        rw [hr]; clear hr
        go_enter Try.func33, Try.ntmps33
        go_wp2
        go_quiet (fail)
        go_wp2
        go_quiet (fail)
        go_wp2
        go_ret
        exact ⟨rfl, _, rfl⟩
      · have l2 : e < b := by omega
        have hr : cmp3 a b c a e f = 1 := by simp [cmp3, e2, l1]
        rw [hr]; clear hr
        go_enter Try.func33, Try.ntmps33
        go_wp2
        go_quiet (fail)
        go_wp2
        go_quiet (fail)
        go_wp2
        go_ret
        exact ⟨rfl, _, rfl⟩
  · have e1' : (a == d) = false := by simpa using e1
    by_cases l1 : a < d
    · have hr : cmp3 a b c d e f = -1 := by simp [cmp3, e1, l1]
      rw [hr]; clear hr
      go_enter Try.func33, Try.ntmps33
      go_wp2
      go_quiet (fail)
      go_wp2
      go_ret
      exact ⟨rfl, _, rfl⟩
    · have l2 : d < a := by omega
      have hr : cmp3 a b c d e f = 1 := by simp [cmp3, e1, l1]
      rw [hr]; clear hr
      go_enter Try.func33, Try.ntmps33
      go_wp2
      go_quiet (fail)
      go_wp2
      go_ret
      exact ⟨rfl, _, rfl⟩

theorem zzcore_any (a b c d e f : Int) (p q : Nat) (w : World)
    (h2 : w.cell? ⟨p, 2, none⟩ = some (.int .u64 a)) (h3 : w.cell? ⟨p, 3, none⟩ = some (.int .u64 b)) (h4 : w.cell? ⟨p, 4, none⟩ = some (.int .u64 c))
    (k2 : w.cell? ⟨q, 2, none⟩ = some (.int .u64 d)) (k3 : w.cell? ⟨q, 3, none⟩ = some (.int .u64 e)) (k4 : w.cell? ⟨q, 4, none⟩ = some (.int .u64 f)) :
    Calls Try.prog 17 #[.pointer (some ⟨p, 0, none⟩), .pointer (some ⟨q, 0, none⟩)] w fun r w' =>
      r = .returned (.int .i64 (cmp3 a b c d e f)) ∧ ∃ n, w' = w.drewN n := by
  go_enter Try.func17, Try.ntmps17
  go_wp2_with (go_at_call 33; refine (core_any a b c d e f p q _ h2 h3 h4 k2 k3 k4).mono ?_; rintro r w' ⟨rfl, n, rfl⟩)
  go_ret
  exact ⟨rfl, _, rfl⟩
end Go.Proofs.Qxb6601715a
