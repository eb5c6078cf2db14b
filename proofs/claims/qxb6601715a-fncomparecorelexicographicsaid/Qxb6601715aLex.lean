/-
  THE LAW's WALK: FnCompareCoreLexicographic (5): seven ways, every test decided ahead of the walk; the callees by their contracts.
-/
import Derived.Test.Qxb6601715aCore
namespace Go.Proofs.Qxb6601715a
open Go.RowKit

theorem grown_drewN {W w : World} (h : Grown W w) (n : Nat) : Grown W (w.drewN n) := h

set_option linter.unusedVariables false in
theorem ver_cells (a b c d e f : Int) (w : World) :
    (((w.alloc (.cells (verCells a b c) 38)).alloc (.cells (verCells d e f) 38)).cell? ⟨w.heap.size, 2, none⟩ = some (.int .u64 a)) ∧
    (((w.alloc (.cells (verCells a b c) 38)).alloc (.cells (verCells d e f) 38)).cell? ⟨w.heap.size, 3, none⟩ = some (.int .u64 b)) ∧
    (((w.alloc (.cells (verCells a b c) 38)).alloc (.cells (verCells d e f) 38)).cell? ⟨w.heap.size, 4, none⟩ = some (.int .u64 c)) ∧
    (((w.alloc (.cells (verCells a b c) 38)).alloc (.cells (verCells d e f) 38)).cell? ⟨w.heap.size + 1, 2, none⟩ = some (.int .u64 d)) ∧
    (((w.alloc (.cells (verCells a b c) 38)).alloc (.cells (verCells d e f) 38)).cell? ⟨w.heap.size + 1, 3, none⟩ = some (.int .u64 e)) ∧
    (((w.alloc (.cells (verCells a b c) 38)).alloc (.cells (verCells d e f) 38)).cell? ⟨w.heap.size + 1, 4, none⟩ = some (.int .u64 f)) := by
  have s1 : (w.alloc (.cells (verCells a b c) 38)).heap.size = w.heap.size + 1 := by simp
  have old : ∀ o, ((w.alloc (.cells (verCells a b c) 38)).alloc (.cells (verCells d e f) 38)).cell? ⟨w.heap.size, o, none⟩ = (verCells a b c)[o]? := fun o => by
    rw [World.cell?_alloc_past _ _ _ (by simp)]
    exact World.cell?_alloc_mark w _ _ _ o
  have new : ∀ o, ((w.alloc (.cells (verCells a b c) 38)).alloc (.cells (verCells d e f) 38)).cell? ⟨w.heap.size + 1, o, none⟩ = (verCells d e f)[o]? := fun o => by
    rw [← s1]
    exact World.cell?_alloc_mark _ _ _ _ o
  refine ⟨?_, ?_, ?_, ?_, ?_, ?_⟩ <;> first | rw [old] | rw [new]
  all_goals rfl

set_option linter.unusedVariables false
theorem lex_walk (a0 : Int) (a1 : Int) (a2 : Int) (a3 : Int) (a4 : Int) (a5 : Int) (w : World) :
    Calls Try.prog 5 #[.int .u64 a0, .int .u64 a1, .int .u64 a2, .int .u64 a3, .int .u64 a4, .int .u64 a5] w fun e w' => e = .returned (.bool true) ∧ Grown w w' := by
  by_cases g1 : a0 < a3
  · have g2 : ¬ a3 < a0 := by omega
    have g3 : (a3 == a0) = false := by simp; omega
    have hr : cmp3 a0 a1 a2 a3 a4 a5 = -1 := by simp [cmp3, *] <;> omega
    obtain ⟨c1, c2, c3, c4, c5, c6⟩ := ver_cells a0 a1 a2 a3 a4 a5 w
    have hcore := zzcore_any a0 a1 a2 a3 a4 a5 w.heap.size (w.heap.size + 1) _ c1 c2 c3 c4 c5 c6
    rw [hr] at hcore
    clear hr c1 c2 c3 c4 c5 c6
    have HC := (show Hid _ from hcore)
    clear hcore
    go_enter Try.func5, Try.ntmps5
    go_wp2_with fail
    refine (ver_any _ _ _ _).mono ?_
    rintro e w1 ⟨rfl, rfl⟩
    go_wp2_with fail
    refine (ver_any _ _ _ _).mono ?_
    rintro e w1 ⟨rfl, rfl⟩
    go_wp2_with fail
    refine Calls.mono HC.out ?_
    rintro e w1 ⟨rfl, n, rfl⟩
    go_wp2
    go_ret
    exact ⟨rfl, grown_drewN (((Grown.refl _).alloc _ _).alloc _ _) _⟩
  by_cases g2 : a3 < a0
  · have g3 : (a0 == a3) = false := by simp; omega
    have hr : cmp3 a0 a1 a2 a3 a4 a5 = 1 := by simp [cmp3, *] <;> omega
    obtain ⟨c1, c2, c3, c4, c5, c6⟩ := ver_cells a0 a1 a2 a3 a4 a5 w
    have hcore := zzcore_any a0 a1 a2 a3 a4 a5 w.heap.size (w.heap.size + 1) _ c1 c2 c3 c4 c5 c6
    rw [hr] at hcore
    clear hr c1 c2 c3 c4 c5 c6
    have HC := (show Hid _ from hcore)
    clear hcore
    go_enter Try.func5, Try.ntmps5
    go_wp2_with fail
    refine (ver_any _ _ _ _).mono ?_
    rintro e w1 ⟨rfl, rfl⟩
    go_wp2_with fail
    refine (ver_any _ _ _ _).mono ?_
    rintro e w1 ⟨rfl, rfl⟩
    go_wp2_with fail
    refine Calls.mono HC.out ?_
    rintro e w1 ⟨rfl, n, rfl⟩
    go_wp2
    go_ret
    exact ⟨rfl, grown_drewN (((Grown.refl _).alloc _ _).alloc _ _) _⟩
  obtain rfl : a0 = a3 := by omega
  by_cases k1 : a1 < a4
  · have k2 : ¬ a4 < a1 := by omega
    have k3 : (a4 == a1) = false := by simp; omega
    have hr : cmp3 a0 a1 a2 a0 a4 a5 = -1 := by simp [cmp3, *] <;> omega
    obtain ⟨c1, c2, c3, c4, c5, c6⟩ := ver_cells a0 a1 a2 a0 a4 a5 w
    have hcore := zzcore_any a0 a1 a2 a0 a4 a5 w.heap.size (w.heap.size + 1) _ c1 c2 c3 c4 c5 c6
    rw [hr] at hcore
    clear hr c1 c2 c3 c4 c5 c6
    have HC := (show Hid _ from hcore)
    clear hcore
    go_enter Try.func5, Try.ntmps5
    go_wp2_with fail
    refine (ver_any _ _ _ _).mono ?_
    rintro e w1 ⟨rfl, rfl⟩
    go_wp2_with fail
    refine (ver_any _ _ _ _).mono ?_
    rintro e w1 ⟨rfl, rfl⟩
    go_wp2_with fail
    refine Calls.mono HC.out ?_
    rintro e w1 ⟨rfl, n, rfl⟩
    go_wp2
    go_ret
    exact ⟨rfl, grown_drewN (((Grown.refl _).alloc _ _).alloc _ _) _⟩
  by_cases k2 : a4 < a1
  · have k3 : (a1 == a4) = false := by simp; omega
    have hr : cmp3 a0 a1 a2 a0 a4 a5 = 1 := by simp [cmp3, *] <;> omega
    obtain ⟨c1, c2, c3, c4, c5, c6⟩ := ver_cells a0 a1 a2 a0 a4 a5 w
    have hcore := zzcore_any a0 a1 a2 a0 a4 a5 w.heap.size (w.heap.size + 1) _ c1 c2 c3 c4 c5 c6
    rw [hr] at hcore
    clear hr c1 c2 c3 c4 c5 c6
    have HC := (show Hid _ from hcore)
    clear hcore
    go_enter Try.func5, Try.ntmps5
    go_wp2_with fail
    refine (ver_any _ _ _ _).mono ?_
    rintro e w1 ⟨rfl, rfl⟩
    go_wp2_with fail
    refine (ver_any _ _ _ _).mono ?_
    rintro e w1 ⟨rfl, rfl⟩
    go_wp2_with fail
    refine Calls.mono HC.out ?_
    rintro e w1 ⟨rfl, n, rfl⟩
    go_wp2
    go_ret
    exact ⟨rfl, grown_drewN (((Grown.refl _).alloc _ _).alloc _ _) _⟩
  obtain rfl : a1 = a4 := by omega
  by_cases m1 : a2 < a5
  · have m2 : ¬ a5 < a2 := by omega
    have hr : cmp3 a0 a1 a2 a0 a1 a5 = -1 := by simp [cmp3, *] <;> omega
    obtain ⟨c1, c2, c3, c4, c5, c6⟩ := ver_cells a0 a1 a2 a0 a1 a5 w
    have hcore := zzcore_any a0 a1 a2 a0 a1 a5 w.heap.size (w.heap.size + 1) _ c1 c2 c3 c4 c5 c6
    rw [hr] at hcore
    clear hr c1 c2 c3 c4 c5 c6
    have HC := (show Hid _ from hcore)
    clear hcore
    go_enter Try.func5, Try.ntmps5
    go_wp2_with fail
    refine (ver_any _ _ _ _).mono ?_
    rintro e w1 ⟨rfl, rfl⟩
    go_wp2_with fail
    refine (ver_any _ _ _ _).mono ?_
    rintro e w1 ⟨rfl, rfl⟩
    go_wp2_with fail
    refine Calls.mono HC.out ?_
    rintro e w1 ⟨rfl, n, rfl⟩
    go_wp2
    go_ret
    exact ⟨rfl, grown_drewN (((Grown.refl _).alloc _ _).alloc _ _) _⟩
  by_cases m2 : a5 < a2
  · have m3 : ¬ a2 < a5 := m1
    have hr : cmp3 a0 a1 a2 a0 a1 a5 = 1 := by simp [cmp3, *] <;> omega
    obtain ⟨c1, c2, c3, c4, c5, c6⟩ := ver_cells a0 a1 a2 a0 a1 a5 w
    have hcore := zzcore_any a0 a1 a2 a0 a1 a5 w.heap.size (w.heap.size + 1) _ c1 c2 c3 c4 c5 c6
    rw [hr] at hcore
    clear hr c1 c2 c3 c4 c5 c6
    have HC := (show Hid _ from hcore)
    clear hcore
    go_enter Try.func5, Try.ntmps5
    go_wp2_with fail
    refine (ver_any _ _ _ _).mono ?_
    rintro e w1 ⟨rfl, rfl⟩
    go_wp2_with fail
    refine (ver_any _ _ _ _).mono ?_
    rintro e w1 ⟨rfl, rfl⟩
    go_wp2_with fail
    refine Calls.mono HC.out ?_
    rintro e w1 ⟨rfl, n, rfl⟩
    go_wp2
    go_ret
    exact ⟨rfl, grown_drewN (((Grown.refl _).alloc _ _).alloc _ _) _⟩
  obtain rfl : a2 = a5 := by omega
  have hr : cmp3 a0 a1 a2 a0 a1 a2 = 0 := by simp [cmp3, *] <;> omega
  obtain ⟨c1, c2, c3, c4, c5, c6⟩ := ver_cells a0 a1 a2 a0 a1 a2 w
  have hcore := zzcore_any a0 a1 a2 a0 a1 a2 w.heap.size (w.heap.size + 1) _ c1 c2 c3 c4 c5 c6
  rw [hr] at hcore
  clear hr c1 c2 c3 c4 c5 c6
  have HC := (show Hid _ from hcore)
  clear hcore
  go_enter Try.func5, Try.ntmps5
  go_wp2_with fail
  refine (ver_any _ _ _ _).mono ?_
  rintro e w1 ⟨rfl, rfl⟩
  go_wp2_with fail
  refine (ver_any _ _ _ _).mono ?_
  rintro e w1 ⟨rfl, rfl⟩
  go_wp2_with fail
  refine Calls.mono HC.out ?_
  rintro e w1 ⟨rfl, n, rfl⟩
  go_wp2
  go_ret
  exact ⟨rfl, grown_drewN (((Grown.refl _).alloc _ _).alloc _ _) _⟩
end Go.Proofs.Qxb6601715a
