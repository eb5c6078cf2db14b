/-
  THE LAW's WALK: FnCompareCoreTotalOrder (6): every test decided ahead of the walk; the callees by their contracts.
-/
import Derived.Test.Qxb6601715aCore
namespace Go.Proofs.Qxb6601715a
open Go.RowKit

theorem grown_drewN6 {W w : World} (h : Grown W w) (n : Nat) : Grown W (w.drewN n) := h

/-- The world behind the three calls of the maker. -/
def w3 (w : World) (a b c d e f g h i : Int) : World := ((w.alloc (.cells (verCells a b c) 38)).alloc (.cells (verCells d e f) 38)).alloc (.cells (verCells g h i) 38)

theorem w3_cells (w : World) (a b c d e f g h i : Int) (o : Nat) :
    (w3 w a b c d e f g h i).cell? ⟨w.heap.size, o, none⟩ = (verCells a b c)[o]? ∧
    (w3 w a b c d e f g h i).cell? ⟨w.heap.size + 1, o, none⟩ = (verCells d e f)[o]? ∧
    (w3 w a b c d e f g h i).cell? ⟨w.heap.size + 2, o, none⟩ = (verCells g h i)[o]? := by
  unfold w3
  have s1 : (w.alloc (.cells (verCells a b c) 38)).heap.size = w.heap.size + 1 := by simp
  have s2 : ((w.alloc (.cells (verCells a b c) 38)).alloc (.cells (verCells d e f) 38)).heap.size = w.heap.size + 2 := by simp
  refine ⟨?_, ?_, ?_⟩
  · rw [World.cell?_alloc_past _ _ _ (by simp; omega), World.cell?_alloc_past _ _ _ (by simp)]
    exact World.cell?_alloc_mark w _ _ _ o
  · rw [World.cell?_alloc_past _ _ _ (by simp), ← s1]
    exact World.cell?_alloc_mark _ _ _ _ o
  · rw [← s2]
    exact World.cell?_alloc_mark _ _ _ _ o

/-- What a call of compareCore hands back, wherever among the draws. -/
def Core (w : World) (p q : Nat) (x : Int) : Prop :=
  ∀ n, Calls Try.prog 17 #[.pointer (some ⟨p, 0, none⟩), .pointer (some ⟨q, 0, none⟩)] (w.drewN n) fun r w' => r = .returned (.int .i64 x) ∧ ∃ m, w' = w.drewN m

theorem core_mk (a b c d e f : Int) (p q : Nat) (w : World) (hp : ∀ o, w.cell? ⟨p, o, none⟩ = (verCells a b c)[o]?) (hq : ∀ o, w.cell? ⟨q, o, none⟩ = (verCells d e f)[o]?) :
    Core w p q (cmp3 a b c d e f) := fun n => by
  refine (zzcore_any a b c d e f p q (w.drewN n) (hp 2) (hp 3) (hp 4) (hq 2) (hq 3) (hq 4)).mono ?_
  rintro r w' ⟨rfl, m, rfl⟩
  exact ⟨rfl, _, World.drewN_drewN _ _ _⟩

/-! ### The plain order -/
theorem cmp3_refl (a b c : Int) : cmp3 a b c a b c = 0 := by simp [cmp3]
theorem cmp3_vals (a b c d e f : Int) : cmp3 a b c d e f = -1 ∨ cmp3 a b c d e f = 0 ∨ cmp3 a b c d e f = 1 := by
  unfold cmp3
  repeat' split
  all_goals simp
theorem cmp3_anti (a b c d e f : Int) : cmp3 d e f a b c = - cmp3 a b c d e f := by
  unfold cmp3
  repeat' split
  all_goals omega
theorem cmp3_zero (a b c d e f : Int) : cmp3 a b c d e f = 0 ↔ a = d ∧ b = e ∧ c = f := by
  unfold cmp3
  repeat' split
  all_goals omega
theorem cmp3_le (a b c d e f : Int) : cmp3 a b c d e f ≤ 0 ↔ a < d ∨ (a = d ∧ (b < e ∨ (b = e ∧ c ≤ f))) := by
  unfold cmp3
  repeat' split
  all_goals omega
theorem cmp3_trans (a b c d e f g h i : Int) (h1 : cmp3 a b c d e f ≤ 0) (h2 : cmp3 d e f g h i ≤ 0) : cmp3 a b c g h i ≤ 0 := by
  rw [cmp3_le] at *
  omega

set_option linter.unusedVariables false

theorem tot_mm_w1 (a0 a1 a2 a3 a4 a5 a6 a7 a8 t : Int) (w : World) (ht : ¬ 0 < t) (g1 : (a0 == a3) = false)
    (Haa : Hid (Calls Try.prog 17 #[.pointer (some ⟨w.heap.size, 0, none⟩), .pointer (some ⟨w.heap.size, 0, none⟩)] (w3 w a0 a1 a2 a3 a4 a5 a6 a7 a8) fun r w' => r = .returned (.int .i64 0) ∧ ∃ m, w' = (w3 w a0 a1 a2 a3 a4 a5 a6 a7 a8).drewN m))
    (Hab : Hid (Core (w3 w a0 a1 a2 a3 a4 a5 a6 a7 a8) w.heap.size (w.heap.size + 1) (-1)))
    (Hba : Hid (Core (w3 w a0 a1 a2 a3 a4 a5 a6 a7 a8) (w.heap.size + 1) w.heap.size (1)))
    (Hbc : Hid (Core (w3 w a0 a1 a2 a3 a4 a5 a6 a7 a8) (w.heap.size + 1) (w.heap.size + 2) (-1)))
    (Hac : Hid (Core (w3 w a0 a1 a2 a3 a4 a5 a6 a7 a8) w.heap.size (w.heap.size + 2) t)) :
    Calls Try.prog 6 #[.int .u64 a0, .int .u64 a1, .int .u64 a2, .int .u64 a3, .int .u64 a4, .int .u64 a5, .int .u64 a6, .int .u64 a7, .int .u64 a8] w fun e w' => e = .returned (.bool true) ∧ Grown w w' := by
  go_enter Try.func6, Try.ntmps6
  go_wp2_with fail
  refine (ver_any _ _ _ _).mono ?_
  rintro e w1 ⟨rfl, rfl⟩
  go_wp2_with fail
  refine (ver_any _ _ _ _).mono ?_
  rintro e w1 ⟨rfl, rfl⟩
  go_wp2_with fail
  refine (ver_any _ _ _ _).mono ?_
  rintro e w1 ⟨rfl, rfl⟩
  go_wp2_with fail
  refine Calls.mono Haa.out ?_
  rintro e w1 ⟨rfl, n1, rfl⟩
  go_wp2_with fail
  refine Calls.mono (Hab.out n1) ?_
  rintro e w1 ⟨rfl, n2, rfl⟩
  go_wp2_with fail
  refine Calls.mono (Hba.out n2) ?_
  rintro e w1 ⟨rfl, n3, rfl⟩
  go_wp2_with fail
  refine Calls.mono (Hbc.out n3) ?_
  rintro e w1 ⟨rfl, n4, rfl⟩
  go_wp2_with fail
  refine Calls.mono (Hac.out n4) ?_
  rintro e w1 ⟨rfl, n5, rfl⟩
  go_wp2
  go_ret
  exact ⟨rfl, grown_drewN6 ((((Grown.refl _).alloc _ _).alloc _ _).alloc _ _) _⟩

theorem tot_mm_w2 (a0 a1 a2 a3 a4 a5 a6 a7 a8 t : Int) (w : World) (ht : ¬ 0 < t) (g2 : (a1 == a4) = false)
    (Haa : Hid (Calls Try.prog 17 #[.pointer (some ⟨w.heap.size, 0, none⟩), .pointer (some ⟨w.heap.size, 0, none⟩)] (w3 w a0 a1 a2 a0 a4 a5 a6 a7 a8) fun r w' => r = .returned (.int .i64 0) ∧ ∃ m, w' = (w3 w a0 a1 a2 a0 a4 a5 a6 a7 a8).drewN m))
    (Hab : Hid (Core (w3 w a0 a1 a2 a0 a4 a5 a6 a7 a8) w.heap.size (w.heap.size + 1) (-1)))
    (Hba : Hid (Core (w3 w a0 a1 a2 a0 a4 a5 a6 a7 a8) (w.heap.size + 1) w.heap.size (1)))
    (Hbc : Hid (Core (w3 w a0 a1 a2 a0 a4 a5 a6 a7 a8) (w.heap.size + 1) (w.heap.size + 2) (-1)))
    (Hac : Hid (Core (w3 w a0 a1 a2 a0 a4 a5 a6 a7 a8) w.heap.size (w.heap.size + 2) t)) :
    Calls Try.prog 6 #[.int .u64 a0, .int .u64 a1, .int .u64 a2, .int .u64 a0, .int .u64 a4, .int .u64 a5, .int .u64 a6, .int .u64 a7, .int .u64 a8] w fun e w' => e = .returned (.bool true) ∧ Grown w w' := by
  go_enter Try.func6, Try.ntmps6
  go_wp2_with fail
  refine (ver_any _ _ _ _).mono ?_
  rintro e w1 ⟨rfl, rfl⟩
  go_wp2_with fail
  refine (ver_any _ _ _ _).mono ?_
  rintro e w1 ⟨rfl, rfl⟩
  go_wp2_with fail
  refine (ver_any _ _ _ _).mono ?_
  rintro e w1 ⟨rfl, rfl⟩
  go_wp2_with fail
  refine Calls.mono Haa.out ?_
  rintro e w1 ⟨rfl, n1, rfl⟩
  go_wp2_with fail
  refine Calls.mono (Hab.out n1) ?_
  rintro e w1 ⟨rfl, n2, rfl⟩
  go_wp2_with fail
  refine Calls.mono (Hba.out n2) ?_
  rintro e w1 ⟨rfl, n3, rfl⟩
  go_wp2_with fail
  refine Calls.mono (Hbc.out n3) ?_
  rintro e w1 ⟨rfl, n4, rfl⟩
  go_wp2_with fail
  refine Calls.mono (Hac.out n4) ?_
  rintro e w1 ⟨rfl, n5, rfl⟩
  go_wp2
  go_ret
  exact ⟨rfl, grown_drewN6 ((((Grown.refl _).alloc _ _).alloc _ _).alloc _ _) _⟩

theorem tot_mm_w3 (a0 a1 a2 a3 a4 a5 a6 a7 a8 t : Int) (w : World) (ht : ¬ 0 < t) (g3 : (a2 == a5) = false)
    (Haa : Hid (Calls Try.prog 17 #[.pointer (some ⟨w.heap.size, 0, none⟩), .pointer (some ⟨w.heap.size, 0, none⟩)] (w3 w a0 a1 a2 a0 a1 a5 a6 a7 a8) fun r w' => r = .returned (.int .i64 0) ∧ ∃ m, w' = (w3 w a0 a1 a2 a0 a1 a5 a6 a7 a8).drewN m))
    (Hab : Hid (Core (w3 w a0 a1 a2 a0 a1 a5 a6 a7 a8) w.heap.size (w.heap.size + 1) (-1)))
    (Hba : Hid (Core (w3 w a0 a1 a2 a0 a1 a5 a6 a7 a8) (w.heap.size + 1) w.heap.size (1)))
    (Hbc : Hid (Core (w3 w a0 a1 a2 a0 a1 a5 a6 a7 a8) (w.heap.size + 1) (w.heap.size + 2) (-1)))
    (Hac : Hid (Core (w3 w a0 a1 a2 a0 a1 a5 a6 a7 a8) w.heap.size (w.heap.size + 2) t)) :
    Calls Try.prog 6 #[.int .u64 a0, .int .u64 a1, .int .u64 a2, .int .u64 a0, .int .u64 a1, .int .u64 a5, .int .u64 a6, .int .u64 a7, .int .u64 a8] w fun e w' => e = .returned (.bool true) ∧ Grown w w' := by
  go_enter Try.func6, Try.ntmps6
  go_wp2_with fail
  refine (ver_any _ _ _ _).mono ?_
  rintro e w1 ⟨rfl, rfl⟩
  go_wp2_with fail
  refine (ver_any _ _ _ _).mono ?_
  rintro e w1 ⟨rfl, rfl⟩
  go_wp2_with fail
  refine (ver_any _ _ _ _).mono ?_
  rintro e w1 ⟨rfl, rfl⟩
  go_wp2_with fail
  refine Calls.mono Haa.out ?_
  rintro e w1 ⟨rfl, n1, rfl⟩
  go_wp2_with fail
  refine Calls.mono (Hab.out n1) ?_
  rintro e w1 ⟨rfl, n2, rfl⟩
  go_wp2_with fail
  refine Calls.mono (Hba.out n2) ?_
  rintro e w1 ⟨rfl, n3, rfl⟩
  go_wp2_with fail
  refine Calls.mono (Hbc.out n3) ?_
  rintro e w1 ⟨rfl, n4, rfl⟩
  go_wp2_with fail
  refine Calls.mono (Hac.out n4) ?_
  rintro e w1 ⟨rfl, n5, rfl⟩
  go_wp2
  go_ret
  exact ⟨rfl, grown_drewN6 ((((Grown.refl _).alloc _ _).alloc _ _).alloc _ _) _⟩

theorem tot_mo_w1 (a0 a1 a2 a3 a4 a5 a6 a7 a8 t : Int) (w : World) (ht : ¬ 0 < t) (g1 : (a0 == a3) = false)
    (Haa : Hid (Calls Try.prog 17 #[.pointer (some ⟨w.heap.size, 0, none⟩), .pointer (some ⟨w.heap.size, 0, none⟩)] (w3 w a0 a1 a2 a3 a4 a5 a6 a7 a8) fun r w' => r = .returned (.int .i64 0) ∧ ∃ m, w' = (w3 w a0 a1 a2 a3 a4 a5 a6 a7 a8).drewN m))
    (Hab : Hid (Core (w3 w a0 a1 a2 a3 a4 a5 a6 a7 a8) w.heap.size (w.heap.size + 1) (-1)))
    (Hba : Hid (Core (w3 w a0 a1 a2 a3 a4 a5 a6 a7 a8) (w.heap.size + 1) w.heap.size (1)))
    (Hbc : Hid (Core (w3 w a0 a1 a2 a3 a4 a5 a6 a7 a8) (w.heap.size + 1) (w.heap.size + 2) (0)))
    (Hac : Hid (Core (w3 w a0 a1 a2 a3 a4 a5 a6 a7 a8) w.heap.size (w.heap.size + 2) t)) :
    Calls Try.prog 6 #[.int .u64 a0, .int .u64 a1, .int .u64 a2, .int .u64 a3, .int .u64 a4, .int .u64 a5, .int .u64 a6, .int .u64 a7, .int .u64 a8] w fun e w' => e = .returned (.bool true) ∧ Grown w w' := by
  go_enter Try.func6, Try.ntmps6
  go_wp2_with fail
  refine (ver_any _ _ _ _).mono ?_
  rintro e w1 ⟨rfl, rfl⟩
  go_wp2_with fail
  refine (ver_any _ _ _ _).mono ?_
  rintro e w1 ⟨rfl, rfl⟩
  go_wp2_with fail
  refine (ver_any _ _ _ _).mono ?_
  rintro e w1 ⟨rfl, rfl⟩
  go_wp2_with fail
  refine Calls.mono Haa.out ?_
  rintro e w1 ⟨rfl, n1, rfl⟩
  go_wp2_with fail
  refine Calls.mono (Hab.out n1) ?_
  rintro e w1 ⟨rfl, n2, rfl⟩
  go_wp2_with fail
  refine Calls.mono (Hba.out n2) ?_
  rintro e w1 ⟨rfl, n3, rfl⟩
  go_wp2_with fail
  refine Calls.mono (Hbc.out n3) ?_
  rintro e w1 ⟨rfl, n4, rfl⟩
  go_wp2_with fail
  refine Calls.mono (Hac.out n4) ?_
  rintro e w1 ⟨rfl, n5, rfl⟩
  go_wp2
  go_ret
  exact ⟨rfl, grown_drewN6 ((((Grown.refl _).alloc _ _).alloc _ _).alloc _ _) _⟩

theorem tot_mo_w2 (a0 a1 a2 a3 a4 a5 a6 a7 a8 t : Int) (w : World) (ht : ¬ 0 < t) (g2 : (a1 == a4) = false)
    (Haa : Hid (Calls Try.prog 17 #[.pointer (some ⟨w.heap.size, 0, none⟩), .pointer (some ⟨w.heap.size, 0, none⟩)] (w3 w a0 a1 a2 a0 a4 a5 a6 a7 a8) fun r w' => r = .returned (.int .i64 0) ∧ ∃ m, w' = (w3 w a0 a1 a2 a0 a4 a5 a6 a7 a8).drewN m))
    (Hab : Hid (Core (w3 w a0 a1 a2 a0 a4 a5 a6 a7 a8) w.heap.size (w.heap.size + 1) (-1)))
    (Hba : Hid (Core (w3 w a0 a1 a2 a0 a4 a5 a6 a7 a8) (w.heap.size + 1) w.heap.size (1)))
    (Hbc : Hid (Core (w3 w a0 a1 a2 a0 a4 a5 a6 a7 a8) (w.heap.size + 1) (w.heap.size + 2) (0)))
    (Hac : Hid (Core (w3 w a0 a1 a2 a0 a4 a5 a6 a7 a8) w.heap.size (w.heap.size + 2) t)) :
    Calls Try.prog 6 #[.int .u64 a0, .int .u64 a1, .int .u64 a2, .int .u64 a0, .int .u64 a4, .int .u64 a5, .int .u64 a6, .int .u64 a7, .int .u64 a8] w fun e w' => e = .returned (.bool true) ∧ Grown w w' := by
  go_enter Try.func6, Try.ntmps6
  go_wp2_with fail
  refine (ver_any _ _ _ _).mono ?_
  rintro e w1 ⟨rfl, rfl⟩
  go_wp2_with fail
  refine (ver_any _ _ _ _).mono ?_
  rintro e w1 ⟨rfl, rfl⟩
  go_wp2_with fail
  refine (ver_any _ _ _ _).mono ?_
  rintro e w1 ⟨rfl, rfl⟩
  go_wp2_with fail
  refine Calls.mono Haa.out ?_
  rintro e w1 ⟨rfl, n1, rfl⟩
  go_wp2_with fail
  refine Calls.mono (Hab.out n1) ?_
  rintro e w1 ⟨rfl, n2, rfl⟩
  go_wp2_with fail
  refine Calls.mono (Hba.out n2) ?_
  rintro e w1 ⟨rfl, n3, rfl⟩
  go_wp2_with fail
  refine Calls.mono (Hbc.out n3) ?_
  rintro e w1 ⟨rfl, n4, rfl⟩
  go_wp2_with fail
  refine Calls.mono (Hac.out n4) ?_
  rintro e w1 ⟨rfl, n5, rfl⟩
  go_wp2
  go_ret
  exact ⟨rfl, grown_drewN6 ((((Grown.refl _).alloc _ _).alloc _ _).alloc _ _) _⟩

theorem tot_mo_w3 (a0 a1 a2 a3 a4 a5 a6 a7 a8 t : Int) (w : World) (ht : ¬ 0 < t) (g3 : (a2 == a5) = false)
    (Haa : Hid (Calls Try.prog 17 #[.pointer (some ⟨w.heap.size, 0, none⟩), .pointer (some ⟨w.heap.size, 0, none⟩)] (w3 w a0 a1 a2 a0 a1 a5 a6 a7 a8) fun r w' => r = .returned (.int .i64 0) ∧ ∃ m, w' = (w3 w a0 a1 a2 a0 a1 a5 a6 a7 a8).drewN m))
    (Hab : Hid (Core (w3 w a0 a1 a2 a0 a1 a5 a6 a7 a8) w.heap.size (w.heap.size + 1) (-1)))
    (Hba : Hid (Core (w3 w a0 a1 a2 a0 a1 a5 a6 a7 a8) (w.heap.size + 1) w.heap.size (1)))
    (Hbc : Hid (Core (w3 w a0 a1 a2 a0 a1 a5 a6 a7 a8) (w.heap.size + 1) (w.heap.size + 2) (0)))
    (Hac : Hid (Core (w3 w a0 a1 a2 a0 a1 a5 a6 a7 a8) w.heap.size (w.heap.size + 2) t)) :
    Calls Try.prog 6 #[.int .u64 a0, .int .u64 a1, .int .u64 a2, .int .u64 a0, .int .u64 a1, .int .u64 a5, .int .u64 a6, .int .u64 a7, .int .u64 a8] w fun e w' => e = .returned (.bool true) ∧ Grown w w' := by
  go_enter Try.func6, Try.ntmps6
  go_wp2_with fail
  refine (ver_any _ _ _ _).mono ?_
  rintro e w1 ⟨rfl, rfl⟩
  go_wp2_with fail
  refine (ver_any _ _ _ _).mono ?_
  rintro e w1 ⟨rfl, rfl⟩
  go_wp2_with fail
  refine (ver_any _ _ _ _).mono ?_
  rintro e w1 ⟨rfl, rfl⟩
  go_wp2_with fail
  refine Calls.mono Haa.out ?_
  rintro e w1 ⟨rfl, n1, rfl⟩
  go_wp2_with fail
  refine Calls.mono (Hab.out n1) ?_
  rintro e w1 ⟨rfl, n2, rfl⟩
  go_wp2_with fail
  refine Calls.mono (Hba.out n2) ?_
  rintro e w1 ⟨rfl, n3, rfl⟩
  go_wp2_with fail
  refine Calls.mono (Hbc.out n3) ?_
  rintro e w1 ⟨rfl, n4, rfl⟩
  go_wp2_with fail
  refine Calls.mono (Hac.out n4) ?_
  rintro e w1 ⟨rfl, n5, rfl⟩
  go_wp2
  go_ret
  exact ⟨rfl, grown_drewN6 ((((Grown.refl _).alloc _ _).alloc _ _).alloc _ _) _⟩

theorem tot_mp_w1 (a0 a1 a2 a3 a4 a5 a6 a7 a8 t : Int) (w : World) (g1 : (a0 == a3) = false)
    (Haa : Hid (Calls Try.prog 17 #[.pointer (some ⟨w.heap.size, 0, none⟩), .pointer (some ⟨w.heap.size, 0, none⟩)] (w3 w a0 a1 a2 a3 a4 a5 a6 a7 a8) fun r w' => r = .returned (.int .i64 0) ∧ ∃ m, w' = (w3 w a0 a1 a2 a3 a4 a5 a6 a7 a8).drewN m))
    (Hab : Hid (Core (w3 w a0 a1 a2 a3 a4 a5 a6 a7 a8) w.heap.size (w.heap.size + 1) (-1)))
    (Hba : Hid (Core (w3 w a0 a1 a2 a3 a4 a5 a6 a7 a8) (w.heap.size + 1) w.heap.size (1)))
    (Hbc : Hid (Core (w3 w a0 a1 a2 a3 a4 a5 a6 a7 a8) (w.heap.size + 1) (w.heap.size + 2) (1)))
    (Hac : Hid (Core (w3 w a0 a1 a2 a3 a4 a5 a6 a7 a8) w.heap.size (w.heap.size + 2) t)) :
    Calls Try.prog 6 #[.int .u64 a0, .int .u64 a1, .int .u64 a2, .int .u64 a3, .int .u64 a4, .int .u64 a5, .int .u64 a6, .int .u64 a7, .int .u64 a8] w fun e w' => e = .returned (.bool true) ∧ Grown w w' := by
  go_enter Try.func6, Try.ntmps6
  go_wp2_with fail
  refine (ver_any _ _ _ _).mono ?_
  rintro e w1 ⟨rfl, rfl⟩
  go_wp2_with fail
  refine (ver_any _ _ _ _).mono ?_
  rintro e w1 ⟨rfl, rfl⟩
  go_wp2_with fail
  refine (ver_any _ _ _ _).mono ?_
  rintro e w1 ⟨rfl, rfl⟩
  go_wp2_with fail
  refine Calls.mono Haa.out ?_
  rintro e w1 ⟨rfl, n1, rfl⟩
  go_wp2_with fail
  refine Calls.mono (Hab.out n1) ?_
  rintro e w1 ⟨rfl, n2, rfl⟩
  go_wp2_with fail
  refine Calls.mono (Hba.out n2) ?_
  rintro e w1 ⟨rfl, n3, rfl⟩
  go_wp2_with fail
  refine Calls.mono (Hbc.out n3) ?_
  rintro e w1 ⟨rfl, n4, rfl⟩
  go_wp2_with fail
  refine Calls.mono (Hac.out n4) ?_
  rintro e w1 ⟨rfl, n5, rfl⟩
  go_wp2
  go_ret
  exact ⟨rfl, grown_drewN6 ((((Grown.refl _).alloc _ _).alloc _ _).alloc _ _) _⟩

theorem tot_mp_w2 (a0 a1 a2 a3 a4 a5 a6 a7 a8 t : Int) (w : World) (g2 : (a1 == a4) = false)
    (Haa : Hid (Calls Try.prog 17 #[.pointer (some ⟨w.heap.size, 0, none⟩), .pointer (some ⟨w.heap.size, 0, none⟩)] (w3 w a0 a1 a2 a0 a4 a5 a6 a7 a8) fun r w' => r = .returned (.int .i64 0) ∧ ∃ m, w' = (w3 w a0 a1 a2 a0 a4 a5 a6 a7 a8).drewN m))
    (Hab : Hid (Core (w3 w a0 a1 a2 a0 a4 a5 a6 a7 a8) w.heap.size (w.heap.size + 1) (-1)))
    (Hba : Hid (Core (w3 w a0 a1 a2 a0 a4 a5 a6 a7 a8) (w.heap.size + 1) w.heap.size (1)))
    (Hbc : Hid (Core (w3 w a0 a1 a2 a0 a4 a5 a6 a7 a8) (w.heap.size + 1) (w.heap.size + 2) (1)))
    (Hac : Hid (Core (w3 w a0 a1 a2 a0 a4 a5 a6 a7 a8) w.heap.size (w.heap.size + 2) t)) :
    Calls Try.prog 6 #[.int .u64 a0, .int .u64 a1, .int .u64 a2, .int .u64 a0, .int .u64 a4, .int .u64 a5, .int .u64 a6, .int .u64 a7, .int .u64 a8] w fun e w' => e = .returned (.bool true) ∧ Grown w w' := by
  go_enter Try.func6, Try.ntmps6
  go_wp2_with fail
  refine (ver_any _ _ _ _).mono ?_
  rintro e w1 ⟨rfl, rfl⟩
  go_wp2_with fail
  refine (ver_any _ _ _ _).mono ?_
  rintro e w1 ⟨rfl, rfl⟩
  go_wp2_with fail
  refine (ver_any _ _ _ _).mono ?_
  rintro e w1 ⟨rfl, rfl⟩
  go_wp2_with fail
  refine Calls.mono Haa.out ?_
  rintro e w1 ⟨rfl, n1, rfl⟩
  go_wp2_with fail
  refine Calls.mono (Hab.out n1) ?_
  rintro e w1 ⟨rfl, n2, rfl⟩
  go_wp2_with fail
  refine Calls.mono (Hba.out n2) ?_
  rintro e w1 ⟨rfl, n3, rfl⟩
  go_wp2_with fail
  refine Calls.mono (Hbc.out n3) ?_
  rintro e w1 ⟨rfl, n4, rfl⟩
  go_wp2_with fail
  refine Calls.mono (Hac.out n4) ?_
  rintro e w1 ⟨rfl, n5, rfl⟩
  go_wp2
  go_ret
  exact ⟨rfl, grown_drewN6 ((((Grown.refl _).alloc _ _).alloc _ _).alloc _ _) _⟩

theorem tot_mp_w3 (a0 a1 a2 a3 a4 a5 a6 a7 a8 t : Int) (w : World) (g3 : (a2 == a5) = false)
    (Haa : Hid (Calls Try.prog 17 #[.pointer (some ⟨w.heap.size, 0, none⟩), .pointer (some ⟨w.heap.size, 0, none⟩)] (w3 w a0 a1 a2 a0 a1 a5 a6 a7 a8) fun r w' => r = .returned (.int .i64 0) ∧ ∃ m, w' = (w3 w a0 a1 a2 a0 a1 a5 a6 a7 a8).drewN m))
    (Hab : Hid (Core (w3 w a0 a1 a2 a0 a1 a5 a6 a7 a8) w.heap.size (w.heap.size + 1) (-1)))
    (Hba : Hid (Core (w3 w a0 a1 a2 a0 a1 a5 a6 a7 a8) (w.heap.size + 1) w.heap.size (1)))
    (Hbc : Hid (Core (w3 w a0 a1 a2 a0 a1 a5 a6 a7 a8) (w.heap.size + 1) (w.heap.size + 2) (1)))
    (Hac : Hid (Core (w3 w a0 a1 a2 a0 a1 a5 a6 a7 a8) w.heap.size (w.heap.size + 2) t)) :
    Calls Try.prog 6 #[.int .u64 a0, .int .u64 a1, .int .u64 a2, .int .u64 a0, .int .u64 a1, .int .u64 a5, .int .u64 a6, .int .u64 a7, .int .u64 a8] w fun e w' => e = .returned (.bool true) ∧ Grown w w' := by
  go_enter Try.func6, Try.ntmps6
  go_wp2_with fail
  refine (ver_any _ _ _ _).mono ?_
  rintro e w1 ⟨rfl, rfl⟩
  go_wp2_with fail
  refine (ver_any _ _ _ _).mono ?_
  rintro e w1 ⟨rfl, rfl⟩
  go_wp2_with fail
  refine (ver_any _ _ _ _).mono ?_
  rintro e w1 ⟨rfl, rfl⟩
  go_wp2_with fail
  refine Calls.mono Haa.out ?_
  rintro e w1 ⟨rfl, n1, rfl⟩
  go_wp2_with fail
  refine Calls.mono (Hab.out n1) ?_
  rintro e w1 ⟨rfl, n2, rfl⟩
  go_wp2_with fail
  refine Calls.mono (Hba.out n2) ?_
  rintro e w1 ⟨rfl, n3, rfl⟩
  go_wp2_with fail
  refine Calls.mono (Hbc.out n3) ?_
  rintro e w1 ⟨rfl, n4, rfl⟩
  go_wp2_with fail
  refine Calls.mono (Hac.out n4) ?_
  rintro e w1 ⟨rfl, n5, rfl⟩
  go_wp2
  go_ret
  exact ⟨rfl, grown_drewN6 ((((Grown.refl _).alloc _ _).alloc _ _).alloc _ _) _⟩

theorem tot_pm_w1 (a0 a1 a2 a3 a4 a5 a6 a7 a8 t : Int) (w : World) (g1 : (a0 == a3) = false)
    (Haa : Hid (Calls Try.prog 17 #[.pointer (some ⟨w.heap.size, 0, none⟩), .pointer (some ⟨w.heap.size, 0, none⟩)] (w3 w a0 a1 a2 a3 a4 a5 a6 a7 a8) fun r w' => r = .returned (.int .i64 0) ∧ ∃ m, w' = (w3 w a0 a1 a2 a3 a4 a5 a6 a7 a8).drewN m))
    (Hab : Hid (Core (w3 w a0 a1 a2 a3 a4 a5 a6 a7 a8) w.heap.size (w.heap.size + 1) (1)))
    (Hba : Hid (Core (w3 w a0 a1 a2 a3 a4 a5 a6 a7 a8) (w.heap.size + 1) w.heap.size (-1)))
    (Hbc : Hid (Core (w3 w a0 a1 a2 a3 a4 a5 a6 a7 a8) (w.heap.size + 1) (w.heap.size + 2) (-1)))
    (Hac : Hid (Core (w3 w a0 a1 a2 a3 a4 a5 a6 a7 a8) w.heap.size (w.heap.size + 2) t)) :
    Calls Try.prog 6 #[.int .u64 a0, .int .u64 a1, .int .u64 a2, .int .u64 a3, .int .u64 a4, .int .u64 a5, .int .u64 a6, .int .u64 a7, .int .u64 a8] w fun e w' => e = .returned (.bool true) ∧ Grown w w' := by
  go_enter Try.func6, Try.ntmps6
  go_wp2_with fail
  refine (ver_any _ _ _ _).mono ?_
  rintro e w1 ⟨rfl, rfl⟩
  go_wp2_with fail
  refine (ver_any _ _ _ _).mono ?_
  rintro e w1 ⟨rfl, rfl⟩
  go_wp2_with fail
  refine (ver_any _ _ _ _).mono ?_
  rintro e w1 ⟨rfl, rfl⟩
  go_wp2_with fail
  refine Calls.mono Haa.out ?_
  rintro e w1 ⟨rfl, n1, rfl⟩
  go_wp2_with fail
  refine Calls.mono (Hab.out n1) ?_
  rintro e w1 ⟨rfl, n2, rfl⟩
  go_wp2_with fail
  refine Calls.mono (Hba.out n2) ?_
  rintro e w1 ⟨rfl, n3, rfl⟩
  go_wp2_with fail
  refine Calls.mono (Hbc.out n3) ?_
  rintro e w1 ⟨rfl, n4, rfl⟩
  go_wp2_with fail
  refine Calls.mono (Hac.out n4) ?_
  rintro e w1 ⟨rfl, n5, rfl⟩
  go_wp2
  go_ret
  exact ⟨rfl, grown_drewN6 ((((Grown.refl _).alloc _ _).alloc _ _).alloc _ _) _⟩

theorem tot_pm_w2 (a0 a1 a2 a3 a4 a5 a6 a7 a8 t : Int) (w : World) (g2 : (a1 == a4) = false)
    (Haa : Hid (Calls Try.prog 17 #[.pointer (some ⟨w.heap.size, 0, none⟩), .pointer (some ⟨w.heap.size, 0, none⟩)] (w3 w a0 a1 a2 a0 a4 a5 a6 a7 a8) fun r w' => r = .returned (.int .i64 0) ∧ ∃ m, w' = (w3 w a0 a1 a2 a0 a4 a5 a6 a7 a8).drewN m))
    (Hab : Hid (Core (w3 w a0 a1 a2 a0 a4 a5 a6 a7 a8) w.heap.size (w.heap.size + 1) (1)))
    (Hba : Hid (Core (w3 w a0 a1 a2 a0 a4 a5 a6 a7 a8) (w.heap.size + 1) w.heap.size (-1)))
    (Hbc : Hid (Core (w3 w a0 a1 a2 a0 a4 a5 a6 a7 a8) (w.heap.size + 1) (w.heap.size + 2) (-1)))
    (Hac : Hid (Core (w3 w a0 a1 a2 a0 a4 a5 a6 a7 a8) w.heap.size (w.heap.size + 2) t)) :
    Calls Try.prog 6 #[.int .u64 a0, .int .u64 a1, .int .u64 a2, .int .u64 a0, .int .u64 a4, .int .u64 a5, .int .u64 a6, .int .u64 a7, .int .u64 a8] w fun e w' => e = .returned (.bool true) ∧ Grown w w' := by
  go_enter Try.func6, Try.ntmps6
  go_wp2_with fail
  refine (ver_any _ _ _ _).mono ?_
  rintro e w1 ⟨rfl, rfl⟩
  go_wp2_with fail
  refine (ver_any _ _ _ _).mono ?_
  rintro e w1 ⟨rfl, rfl⟩
  go_wp2_with fail
  refine (ver_any _ _ _ _).mono ?_
  rintro e w1 ⟨rfl, rfl⟩
  go_wp2_with fail
  refine Calls.mono Haa.out ?_
  rintro e w1 ⟨rfl, n1, rfl⟩
  go_wp2_with fail
  refine Calls.mono (Hab.out n1) ?_
  rintro e w1 ⟨rfl, n2, rfl⟩
  go_wp2_with fail
  refine Calls.mono (Hba.out n2) ?_
  rintro e w1 ⟨rfl, n3, rfl⟩
  go_wp2_with fail
  refine Calls.mono (Hbc.out n3) ?_
  rintro e w1 ⟨rfl, n4, rfl⟩
  go_wp2_with fail
  refine Calls.mono (Hac.out n4) ?_
  rintro e w1 ⟨rfl, n5, rfl⟩
  go_wp2
  go_ret
  exact ⟨rfl, grown_drewN6 ((((Grown.refl _).alloc _ _).alloc _ _).alloc _ _) _⟩

theorem tot_pm_w3 (a0 a1 a2 a3 a4 a5 a6 a7 a8 t : Int) (w : World) (g3 : (a2 == a5) = false)
    (Haa : Hid (Calls Try.prog 17 #[.pointer (some ⟨w.heap.size, 0, none⟩), .pointer (some ⟨w.heap.size, 0, none⟩)] (w3 w a0 a1 a2 a0 a1 a5 a6 a7 a8) fun r w' => r = .returned (.int .i64 0) ∧ ∃ m, w' = (w3 w a0 a1 a2 a0 a1 a5 a6 a7 a8).drewN m))
    (Hab : Hid (Core (w3 w a0 a1 a2 a0 a1 a5 a6 a7 a8) w.heap.size (w.heap.size + 1) (1)))
    (Hba : Hid (Core (w3 w a0 a1 a2 a0 a1 a5 a6 a7 a8) (w.heap.size + 1) w.heap.size (-1)))
    (Hbc : Hid (Core (w3 w a0 a1 a2 a0 a1 a5 a6 a7 a8) (w.heap.size + 1) (w.heap.size + 2) (-1)))
    (Hac : Hid (Core (w3 w a0 a1 a2 a0 a1 a5 a6 a7 a8) w.heap.size (w.heap.size + 2) t)) :
    Calls Try.prog 6 #[.int .u64 a0, .int .u64 a1, .int .u64 a2, .int .u64 a0, .int .u64 a1, .int .u64 a5, .int .u64 a6, .int .u64 a7, .int .u64 a8] w fun e w' => e = .returned (.bool true) ∧ Grown w w' := by
  go_enter Try.func6, Try.ntmps6
  go_wp2_with fail
  refine (ver_any _ _ _ _).mono ?_
  rintro e w1 ⟨rfl, rfl⟩
  go_wp2_with fail
  refine (ver_any _ _ _ _).mono ?_
  rintro e w1 ⟨rfl, rfl⟩
  go_wp2_with fail
  refine (ver_any _ _ _ _).mono ?_
  rintro e w1 ⟨rfl, rfl⟩
  go_wp2_with fail
  refine Calls.mono Haa.out ?_
  rintro e w1 ⟨rfl, n1, rfl⟩
  go_wp2_with fail
  refine Calls.mono (Hab.out n1) ?_
  rintro e w1 ⟨rfl, n2, rfl⟩
  go_wp2_with fail
  refine Calls.mono (Hba.out n2) ?_
  rintro e w1 ⟨rfl, n3, rfl⟩
  go_wp2_with fail
  refine Calls.mono (Hbc.out n3) ?_
  rintro e w1 ⟨rfl, n4, rfl⟩
  go_wp2_with fail
  refine Calls.mono (Hac.out n4) ?_
  rintro e w1 ⟨rfl, n5, rfl⟩
  go_wp2
  go_ret
  exact ⟨rfl, grown_drewN6 ((((Grown.refl _).alloc _ _).alloc _ _).alloc _ _) _⟩

theorem tot_po_w1 (a0 a1 a2 a3 a4 a5 a6 a7 a8 t : Int) (w : World) (ht : ¬ t < 0) (g1 : (a0 == a3) = false)
    (Haa : Hid (Calls Try.prog 17 #[.pointer (some ⟨w.heap.size, 0, none⟩), .pointer (some ⟨w.heap.size, 0, none⟩)] (w3 w a0 a1 a2 a3 a4 a5 a6 a7 a8) fun r w' => r = .returned (.int .i64 0) ∧ ∃ m, w' = (w3 w a0 a1 a2 a3 a4 a5 a6 a7 a8).drewN m))
    (Hab : Hid (Core (w3 w a0 a1 a2 a3 a4 a5 a6 a7 a8) w.heap.size (w.heap.size + 1) (1)))
    (Hba : Hid (Core (w3 w a0 a1 a2 a3 a4 a5 a6 a7 a8) (w.heap.size + 1) w.heap.size (-1)))
    (Hbc : Hid (Core (w3 w a0 a1 a2 a3 a4 a5 a6 a7 a8) (w.heap.size + 1) (w.heap.size + 2) (0)))
    (Hac : Hid (Core (w3 w a0 a1 a2 a3 a4 a5 a6 a7 a8) w.heap.size (w.heap.size + 2) t)) :
    Calls Try.prog 6 #[.int .u64 a0, .int .u64 a1, .int .u64 a2, .int .u64 a3, .int .u64 a4, .int .u64 a5, .int .u64 a6, .int .u64 a7, .int .u64 a8] w fun e w' => e = .returned (.bool true) ∧ Grown w w' := by
  go_enter Try.func6, Try.ntmps6
  go_wp2_with fail
  refine (ver_any _ _ _ _).mono ?_
  rintro e w1 ⟨rfl, rfl⟩
  go_wp2_with fail
  refine (ver_any _ _ _ _).mono ?_
  rintro e w1 ⟨rfl, rfl⟩
  go_wp2_with fail
  refine (ver_any _ _ _ _).mono ?_
  rintro e w1 ⟨rfl, rfl⟩
  go_wp2_with fail
  refine Calls.mono Haa.out ?_
  rintro e w1 ⟨rfl, n1, rfl⟩
  go_wp2_with fail
  refine Calls.mono (Hab.out n1) ?_
  rintro e w1 ⟨rfl, n2, rfl⟩
  go_wp2_with fail
  refine Calls.mono (Hba.out n2) ?_
  rintro e w1 ⟨rfl, n3, rfl⟩
  go_wp2_with fail
  refine Calls.mono (Hbc.out n3) ?_
  rintro e w1 ⟨rfl, n4, rfl⟩
  go_wp2_with fail
  refine Calls.mono (Hac.out n4) ?_
  rintro e w1 ⟨rfl, n5, rfl⟩
  go_wp2
  go_ret
  exact ⟨rfl, grown_drewN6 ((((Grown.refl _).alloc _ _).alloc _ _).alloc _ _) _⟩

theorem tot_po_w2 (a0 a1 a2 a3 a4 a5 a6 a7 a8 t : Int) (w : World) (ht : ¬ t < 0) (g2 : (a1 == a4) = false)
    (Haa : Hid (Calls Try.prog 17 #[.pointer (some ⟨w.heap.size, 0, none⟩), .pointer (some ⟨w.heap.size, 0, none⟩)] (w3 w a0 a1 a2 a0 a4 a5 a6 a7 a8) fun r w' => r = .returned (.int .i64 0) ∧ ∃ m, w' = (w3 w a0 a1 a2 a0 a4 a5 a6 a7 a8).drewN m))
    (Hab : Hid (Core (w3 w a0 a1 a2 a0 a4 a5 a6 a7 a8) w.heap.size (w.heap.size + 1) (1)))
    (Hba : Hid (Core (w3 w a0 a1 a2 a0 a4 a5 a6 a7 a8) (w.heap.size + 1) w.heap.size (-1)))
    (Hbc : Hid (Core (w3 w a0 a1 a2 a0 a4 a5 a6 a7 a8) (w.heap.size + 1) (w.heap.size + 2) (0)))
    (Hac : Hid (Core (w3 w a0 a1 a2 a0 a4 a5 a6 a7 a8) w.heap.size (w.heap.size + 2) t)) :
    Calls Try.prog 6 #[.int .u64 a0, .int .u64 a1, .int .u64 a2, .int .u64 a0, .int .u64 a4, .int .u64 a5, .int .u64 a6, .int .u64 a7, .int .u64 a8] w fun e w' => e = .returned (.bool true) ∧ Grown w w' := by
  go_enter Try.func6, Try.ntmps6
  go_wp2_with fail
  refine (ver_any _ _ _ _).mono ?_
  rintro e w1 ⟨rfl, rfl⟩
  go_wp2_with fail
  refine (ver_any _ _ _ _).mono ?_
  rintro e w1 ⟨rfl, rfl⟩
  go_wp2_with fail
  refine (ver_any _ _ _ _).mono ?_
  rintro e w1 ⟨rfl, rfl⟩
  go_wp2_with fail
  refine Calls.mono Haa.out ?_
  rintro e w1 ⟨rfl, n1, rfl⟩
  go_wp2_with fail
  refine Calls.mono (Hab.out n1) ?_
  rintro e w1 ⟨rfl, n2, rfl⟩
  go_wp2_with fail
  refine Calls.mono (Hba.out n2) ?_
  rintro e w1 ⟨rfl, n3, rfl⟩
  go_wp2_with fail
  refine Calls.mono (Hbc.out n3) ?_
  rintro e w1 ⟨rfl, n4, rfl⟩
  go_wp2_with fail
  refine Calls.mono (Hac.out n4) ?_
  rintro e w1 ⟨rfl, n5, rfl⟩
  go_wp2
  go_ret
  exact ⟨rfl, grown_drewN6 ((((Grown.refl _).alloc _ _).alloc _ _).alloc _ _) _⟩

theorem tot_po_w3 (a0 a1 a2 a3 a4 a5 a6 a7 a8 t : Int) (w : World) (ht : ¬ t < 0) (g3 : (a2 == a5) = false)
    (Haa : Hid (Calls Try.prog 17 #[.pointer (some ⟨w.heap.size, 0, none⟩), .pointer (some ⟨w.heap.size, 0, none⟩)] (w3 w a0 a1 a2 a0 a1 a5 a6 a7 a8) fun r w' => r = .returned (.int .i64 0) ∧ ∃ m, w' = (w3 w a0 a1 a2 a0 a1 a5 a6 a7 a8).drewN m))
    (Hab : Hid (Core (w3 w a0 a1 a2 a0 a1 a5 a6 a7 a8) w.heap.size (w.heap.size + 1) (1)))
    (Hba : Hid (Core (w3 w a0 a1 a2 a0 a1 a5 a6 a7 a8) (w.heap.size + 1) w.heap.size (-1)))
    (Hbc : Hid (Core (w3 w a0 a1 a2 a0 a1 a5 a6 a7 a8) (w.heap.size + 1) (w.heap.size + 2) (0)))
    (Hac : Hid (Core (w3 w a0 a1 a2 a0 a1 a5 a6 a7 a8) w.heap.size (w.heap.size + 2) t)) :
    Calls Try.prog 6 #[.int .u64 a0, .int .u64 a1, .int .u64 a2, .int .u64 a0, .int .u64 a1, .int .u64 a5, .int .u64 a6, .int .u64 a7, .int .u64 a8] w fun e w' => e = .returned (.bool true) ∧ Grown w w' := by
  go_enter Try.func6, Try.ntmps6
  go_wp2_with fail
  refine (ver_any _ _ _ _).mono ?_
  rintro e w1 ⟨rfl, rfl⟩
  go_wp2_with fail
  refine (ver_any _ _ _ _).mono ?_
  rintro e w1 ⟨rfl, rfl⟩
  go_wp2_with fail
  refine (ver_any _ _ _ _).mono ?_
  rintro e w1 ⟨rfl, rfl⟩
  go_wp2_with fail
  refine Calls.mono Haa.out ?_
  rintro e w1 ⟨rfl, n1, rfl⟩
  go_wp2_with fail
  refine Calls.mono (Hab.out n1) ?_
  rintro e w1 ⟨rfl, n2, rfl⟩
  go_wp2_with fail
  refine Calls.mono (Hba.out n2) ?_
  rintro e w1 ⟨rfl, n3, rfl⟩
  go_wp2_with fail
  refine Calls.mono (Hbc.out n3) ?_
  rintro e w1 ⟨rfl, n4, rfl⟩
  go_wp2_with fail
  refine Calls.mono (Hac.out n4) ?_
  rintro e w1 ⟨rfl, n5, rfl⟩
  go_wp2
  go_ret
  exact ⟨rfl, grown_drewN6 ((((Grown.refl _).alloc _ _).alloc _ _).alloc _ _) _⟩

theorem tot_pp_w1 (a0 a1 a2 a3 a4 a5 a6 a7 a8 t : Int) (w : World) (ht : ¬ t < 0) (g1 : (a0 == a3) = false)
    (Haa : Hid (Calls Try.prog 17 #[.pointer (some ⟨w.heap.size, 0, none⟩), .pointer (some ⟨w.heap.size, 0, none⟩)] (w3 w a0 a1 a2 a3 a4 a5 a6 a7 a8) fun r w' => r = .returned (.int .i64 0) ∧ ∃ m, w' = (w3 w a0 a1 a2 a3 a4 a5 a6 a7 a8).drewN m))
    (Hab : Hid (Core (w3 w a0 a1 a2 a3 a4 a5 a6 a7 a8) w.heap.size (w.heap.size + 1) (1)))
    (Hba : Hid (Core (w3 w a0 a1 a2 a3 a4 a5 a6 a7 a8) (w.heap.size + 1) w.heap.size (-1)))
    (Hbc : Hid (Core (w3 w a0 a1 a2 a3 a4 a5 a6 a7 a8) (w.heap.size + 1) (w.heap.size + 2) (1)))
    (Hac : Hid (Core (w3 w a0 a1 a2 a3 a4 a5 a6 a7 a8) w.heap.size (w.heap.size + 2) t)) :
    Calls Try.prog 6 #[.int .u64 a0, .int .u64 a1, .int .u64 a2, .int .u64 a3, .int .u64 a4, .int .u64 a5, .int .u64 a6, .int .u64 a7, .int .u64 a8] w fun e w' => e = .returned (.bool true) ∧ Grown w w' := by
  go_enter Try.func6, Try.ntmps6
  go_wp2_with fail
  refine (ver_any _ _ _ _).mono ?_
  rintro e w1 ⟨rfl, rfl⟩
  go_wp2_with fail
  refine (ver_any _ _ _ _).mono ?_
  rintro e w1 ⟨rfl, rfl⟩
  go_wp2_with fail
  refine (ver_any _ _ _ _).mono ?_
  rintro e w1 ⟨rfl, rfl⟩
  go_wp2_with fail
  refine Calls.mono Haa.out ?_
  rintro e w1 ⟨rfl, n1, rfl⟩
  go_wp2_with fail
  refine Calls.mono (Hab.out n1) ?_
  rintro e w1 ⟨rfl, n2, rfl⟩
  go_wp2_with fail
  refine Calls.mono (Hba.out n2) ?_
  rintro e w1 ⟨rfl, n3, rfl⟩
  go_wp2_with fail
  refine Calls.mono (Hbc.out n3) ?_
  rintro e w1 ⟨rfl, n4, rfl⟩
  go_wp2_with fail
  refine Calls.mono (Hac.out n4) ?_
  rintro e w1 ⟨rfl, n5, rfl⟩
  go_wp2
  go_ret
  exact ⟨rfl, grown_drewN6 ((((Grown.refl _).alloc _ _).alloc _ _).alloc _ _) _⟩

theorem tot_pp_w2 (a0 a1 a2 a3 a4 a5 a6 a7 a8 t : Int) (w : World) (ht : ¬ t < 0) (g2 : (a1 == a4) = false)
    (Haa : Hid (Calls Try.prog 17 #[.pointer (some ⟨w.heap.size, 0, none⟩), .pointer (some ⟨w.heap.size, 0, none⟩)] (w3 w a0 a1 a2 a0 a4 a5 a6 a7 a8) fun r w' => r = .returned (.int .i64 0) ∧ ∃ m, w' = (w3 w a0 a1 a2 a0 a4 a5 a6 a7 a8).drewN m))
    (Hab : Hid (Core (w3 w a0 a1 a2 a0 a4 a5 a6 a7 a8) w.heap.size (w.heap.size + 1) (1)))
    (Hba : Hid (Core (w3 w a0 a1 a2 a0 a4 a5 a6 a7 a8) (w.heap.size + 1) w.heap.size (-1)))
    (Hbc : Hid (Core (w3 w a0 a1 a2 a0 a4 a5 a6 a7 a8) (w.heap.size + 1) (w.heap.size + 2) (1)))
    (Hac : Hid (Core (w3 w a0 a1 a2 a0 a4 a5 a6 a7 a8) w.heap.size (w.heap.size + 2) t)) :
    Calls Try.prog 6 #[.int .u64 a0, .int .u64 a1, .int .u64 a2, .int .u64 a0, .int .u64 a4, .int .u64 a5, .int .u64 a6, .int .u64 a7, .int .u64 a8] w fun e w' => e = .returned (.bool true) ∧ Grown w w' := by
  go_enter Try.func6, Try.ntmps6
  go_wp2_with fail
  refine (ver_any _ _ _ _).mono ?_
  rintro e w1 ⟨rfl, rfl⟩
  go_wp2_with fail
  refine (ver_any _ _ _ _).mono ?_
  rintro e w1 ⟨rfl, rfl⟩
  go_wp2_with fail
  refine (ver_any _ _ _ _).mono ?_
  rintro e w1 ⟨rfl, rfl⟩
  go_wp2_with fail
  refine Calls.mono Haa.out ?_
  rintro e w1 ⟨rfl, n1, rfl⟩
  go_wp2_with fail
  refine Calls.mono (Hab.out n1) ?_
  rintro e w1 ⟨rfl, n2, rfl⟩
  go_wp2_with fail
  refine Calls.mono (Hba.out n2) ?_
  rintro e w1 ⟨rfl, n3, rfl⟩
  go_wp2_with fail
  refine Calls.mono (Hbc.out n3) ?_
  rintro e w1 ⟨rfl, n4, rfl⟩
  go_wp2_with fail
  refine Calls.mono (Hac.out n4) ?_
  rintro e w1 ⟨rfl, n5, rfl⟩
  go_wp2
  go_ret
  exact ⟨rfl, grown_drewN6 ((((Grown.refl _).alloc _ _).alloc _ _).alloc _ _) _⟩

theorem tot_pp_w3 (a0 a1 a2 a3 a4 a5 a6 a7 a8 t : Int) (w : World) (ht : ¬ t < 0) (g3 : (a2 == a5) = false)
    (Haa : Hid (Calls Try.prog 17 #[.pointer (some ⟨w.heap.size, 0, none⟩), .pointer (some ⟨w.heap.size, 0, none⟩)] (w3 w a0 a1 a2 a0 a1 a5 a6 a7 a8) fun r w' => r = .returned (.int .i64 0) ∧ ∃ m, w' = (w3 w a0 a1 a2 a0 a1 a5 a6 a7 a8).drewN m))
    (Hab : Hid (Core (w3 w a0 a1 a2 a0 a1 a5 a6 a7 a8) w.heap.size (w.heap.size + 1) (1)))
    (Hba : Hid (Core (w3 w a0 a1 a2 a0 a1 a5 a6 a7 a8) (w.heap.size + 1) w.heap.size (-1)))
    (Hbc : Hid (Core (w3 w a0 a1 a2 a0 a1 a5 a6 a7 a8) (w.heap.size + 1) (w.heap.size + 2) (1)))
    (Hac : Hid (Core (w3 w a0 a1 a2 a0 a1 a5 a6 a7 a8) w.heap.size (w.heap.size + 2) t)) :
    Calls Try.prog 6 #[.int .u64 a0, .int .u64 a1, .int .u64 a2, .int .u64 a0, .int .u64 a1, .int .u64 a5, .int .u64 a6, .int .u64 a7, .int .u64 a8] w fun e w' => e = .returned (.bool true) ∧ Grown w w' := by
  go_enter Try.func6, Try.ntmps6
  go_wp2_with fail
  refine (ver_any _ _ _ _).mono ?_
  rintro e w1 ⟨rfl, rfl⟩
  go_wp2_with fail
  refine (ver_any _ _ _ _).mono ?_
  rintro e w1 ⟨rfl, rfl⟩
  go_wp2_with fail
  refine (ver_any _ _ _ _).mono ?_
  rintro e w1 ⟨rfl, rfl⟩
  go_wp2_with fail
  refine Calls.mono Haa.out ?_
  rintro e w1 ⟨rfl, n1, rfl⟩
  go_wp2_with fail
  refine Calls.mono (Hab.out n1) ?_
  rintro e w1 ⟨rfl, n2, rfl⟩
  go_wp2_with fail
  refine Calls.mono (Hba.out n2) ?_
  rintro e w1 ⟨rfl, n3, rfl⟩
  go_wp2_with fail
  refine Calls.mono (Hbc.out n3) ?_
  rintro e w1 ⟨rfl, n4, rfl⟩
  go_wp2_with fail
  refine Calls.mono (Hac.out n4) ?_
  rintro e w1 ⟨rfl, n5, rfl⟩
  go_wp2
  go_ret
  exact ⟨rfl, grown_drewN6 ((((Grown.refl _).alloc _ _).alloc _ _).alloc _ _) _⟩

theorem tot_om (a0 a1 a2 a3 a4 a5 a6 a7 a8 t : Int) (w : World) (ht : ¬ 0 < t)
    (Haa : Hid (Calls Try.prog 17 #[.pointer (some ⟨w.heap.size, 0, none⟩), .pointer (some ⟨w.heap.size, 0, none⟩)] (w3 w a0 a1 a2 a0 a1 a2 a6 a7 a8) fun r w' => r = .returned (.int .i64 0) ∧ ∃ m, w' = (w3 w a0 a1 a2 a0 a1 a2 a6 a7 a8).drewN m))
    (Hab : Hid (Core (w3 w a0 a1 a2 a0 a1 a2 a6 a7 a8) w.heap.size (w.heap.size + 1) (0)))
    (Hba : Hid (Core (w3 w a0 a1 a2 a0 a1 a2 a6 a7 a8) (w.heap.size + 1) w.heap.size (0)))
    (Hbc : Hid (Core (w3 w a0 a1 a2 a0 a1 a2 a6 a7 a8) (w.heap.size + 1) (w.heap.size + 2) (-1)))
    (Hac : Hid (Core (w3 w a0 a1 a2 a0 a1 a2 a6 a7 a8) w.heap.size (w.heap.size + 2) t)) :
    Calls Try.prog 6 #[.int .u64 a0, .int .u64 a1, .int .u64 a2, .int .u64 a0, .int .u64 a1, .int .u64 a2, .int .u64 a6, .int .u64 a7, .int .u64 a8] w fun e w' => e = .returned (.bool true) ∧ Grown w w' := by
  go_enter Try.func6, Try.ntmps6
  go_wp2_with fail
  refine (ver_any _ _ _ _).mono ?_
  rintro e w1 ⟨rfl, rfl⟩
  go_wp2_with fail
  refine (ver_any _ _ _ _).mono ?_
  rintro e w1 ⟨rfl, rfl⟩
  go_wp2_with fail
  refine (ver_any _ _ _ _).mono ?_
  rintro e w1 ⟨rfl, rfl⟩
  go_wp2_with fail
  refine Calls.mono Haa.out ?_
  rintro e w1 ⟨rfl, n1, rfl⟩
  go_wp2_with fail
  refine Calls.mono (Hab.out n1) ?_
  rintro e w1 ⟨rfl, n2, rfl⟩
  go_wp2_with fail
  refine Calls.mono (Hba.out n2) ?_
  rintro e w1 ⟨rfl, n3, rfl⟩
  go_wp2_with fail
  refine Calls.mono (Hbc.out n3) ?_
  rintro e w1 ⟨rfl, n4, rfl⟩
  go_wp2_with fail
  refine Calls.mono (Hac.out n4) ?_
  rintro e w1 ⟨rfl, n5, rfl⟩
  go_wp2
  go_ret
  exact ⟨rfl, grown_drewN6 ((((Grown.refl _).alloc _ _).alloc _ _).alloc _ _) _⟩

theorem tot_oo (a0 a1 a2 a3 a4 a5 a6 a7 a8 t : Int) (w : World) (ht : ¬ 0 < t) (ht2 : ¬ t < 0)
    (Haa : Hid (Calls Try.prog 17 #[.pointer (some ⟨w.heap.size, 0, none⟩), .pointer (some ⟨w.heap.size, 0, none⟩)] (w3 w a0 a1 a2 a0 a1 a2 a6 a7 a8) fun r w' => r = .returned (.int .i64 0) ∧ ∃ m, w' = (w3 w a0 a1 a2 a0 a1 a2 a6 a7 a8).drewN m))
    (Hab : Hid (Core (w3 w a0 a1 a2 a0 a1 a2 a6 a7 a8) w.heap.size (w.heap.size + 1) (0)))
    (Hba : Hid (Core (w3 w a0 a1 a2 a0 a1 a2 a6 a7 a8) (w.heap.size + 1) w.heap.size (0)))
    (Hbc : Hid (Core (w3 w a0 a1 a2 a0 a1 a2 a6 a7 a8) (w.heap.size + 1) (w.heap.size + 2) (0)))
    (Hac : Hid (Core (w3 w a0 a1 a2 a0 a1 a2 a6 a7 a8) w.heap.size (w.heap.size + 2) t)) :
    Calls Try.prog 6 #[.int .u64 a0, .int .u64 a1, .int .u64 a2, .int .u64 a0, .int .u64 a1, .int .u64 a2, .int .u64 a6, .int .u64 a7, .int .u64 a8] w fun e w' => e = .returned (.bool true) ∧ Grown w w' := by
  go_enter Try.func6, Try.ntmps6
  go_wp2_with fail
  refine (ver_any _ _ _ _).mono ?_
  rintro e w1 ⟨rfl, rfl⟩
  go_wp2_with fail
  refine (ver_any _ _ _ _).mono ?_
  rintro e w1 ⟨rfl, rfl⟩
  go_wp2_with fail
  refine (ver_any _ _ _ _).mono ?_
  rintro e w1 ⟨rfl, rfl⟩
  go_wp2_with fail
  refine Calls.mono Haa.out ?_
  rintro e w1 ⟨rfl, n1, rfl⟩
  go_wp2_with fail
  refine Calls.mono (Hab.out n1) ?_
  rintro e w1 ⟨rfl, n2, rfl⟩
  go_wp2_with fail
  refine Calls.mono (Hba.out n2) ?_
  rintro e w1 ⟨rfl, n3, rfl⟩
  go_wp2_with fail
  refine Calls.mono (Hbc.out n3) ?_
  rintro e w1 ⟨rfl, n4, rfl⟩
  go_wp2_with fail
  refine Calls.mono (Hac.out n4) ?_
  rintro e w1 ⟨rfl, n5, rfl⟩
  go_wp2
  go_ret
  exact ⟨rfl, grown_drewN6 ((((Grown.refl _).alloc _ _).alloc _ _).alloc _ _) _⟩

theorem tot_op (a0 a1 a2 a3 a4 a5 a6 a7 a8 t : Int) (w : World) (ht : ¬ t < 0)
    (Haa : Hid (Calls Try.prog 17 #[.pointer (some ⟨w.heap.size, 0, none⟩), .pointer (some ⟨w.heap.size, 0, none⟩)] (w3 w a0 a1 a2 a0 a1 a2 a6 a7 a8) fun r w' => r = .returned (.int .i64 0) ∧ ∃ m, w' = (w3 w a0 a1 a2 a0 a1 a2 a6 a7 a8).drewN m))
    (Hab : Hid (Core (w3 w a0 a1 a2 a0 a1 a2 a6 a7 a8) w.heap.size (w.heap.size + 1) (0)))
    (Hba : Hid (Core (w3 w a0 a1 a2 a0 a1 a2 a6 a7 a8) (w.heap.size + 1) w.heap.size (0)))
    (Hbc : Hid (Core (w3 w a0 a1 a2 a0 a1 a2 a6 a7 a8) (w.heap.size + 1) (w.heap.size + 2) (1)))
    (Hac : Hid (Core (w3 w a0 a1 a2 a0 a1 a2 a6 a7 a8) w.heap.size (w.heap.size + 2) t)) :
    Calls Try.prog 6 #[.int .u64 a0, .int .u64 a1, .int .u64 a2, .int .u64 a0, .int .u64 a1, .int .u64 a2, .int .u64 a6, .int .u64 a7, .int .u64 a8] w fun e w' => e = .returned (.bool true) ∧ Grown w w' := by
  go_enter Try.func6, Try.ntmps6
  go_wp2_with fail
  refine (ver_any _ _ _ _).mono ?_
  rintro e w1 ⟨rfl, rfl⟩
  go_wp2_with fail
  refine (ver_any _ _ _ _).mono ?_
  rintro e w1 ⟨rfl, rfl⟩
  go_wp2_with fail
  refine (ver_any _ _ _ _).mono ?_
  rintro e w1 ⟨rfl, rfl⟩
  go_wp2_with fail
  refine Calls.mono Haa.out ?_
  rintro e w1 ⟨rfl, n1, rfl⟩
  go_wp2_with fail
  refine Calls.mono (Hab.out n1) ?_
  rintro e w1 ⟨rfl, n2, rfl⟩
  go_wp2_with fail
  refine Calls.mono (Hba.out n2) ?_
  rintro e w1 ⟨rfl, n3, rfl⟩
  go_wp2_with fail
  refine Calls.mono (Hbc.out n3) ?_
  rintro e w1 ⟨rfl, n4, rfl⟩
  go_wp2_with fail
  refine Calls.mono (Hac.out n4) ?_
  rintro e w1 ⟨rfl, n5, rfl⟩
  go_wp2
  go_ret
  exact ⟨rfl, grown_drewN6 ((((Grown.refl _).alloc _ _).alloc _ _).alloc _ _) _⟩

theorem tot_walk (a0 a1 a2 a3 a4 a5 a6 a7 a8 : Int) (w : World) :
    Calls Try.prog 6 #[.int .u64 a0, .int .u64 a1, .int .u64 a2, .int .u64 a3, .int .u64 a4, .int .u64 a5, .int .u64 a6, .int .u64 a7, .int .u64 a8] w fun e w' => e = .returned (.bool true) ∧ Grown w w' := by
  have p0 := fun o => (w3_cells w a0 a1 a2 a3 a4 a5 a6 a7 a8 o).1
  have p1 := fun o => (w3_cells w a0 a1 a2 a3 a4 a5 a6 a7 a8 o).2.1
  have p2 := fun o => (w3_cells w a0 a1 a2 a3 a4 a5 a6 a7 a8 o).2.2
  have Haa := core_mk a0 a1 a2 a0 a1 a2 _ _ _ p0 p0 0
  have Hab := core_mk a0 a1 a2 a3 a4 a5 _ _ _ p0 p1
  have Hba := core_mk a3 a4 a5 a0 a1 a2 _ _ _ p1 p0
  have Hbc := core_mk a3 a4 a5 a6 a7 a8 _ _ _ p1 p2
  have Hac := core_mk a0 a1 a2 a6 a7 a8 _ _ _ p0 p2
  rw [cmp3_refl, World.drewN_zero] at Haa
  rw [cmp3_anti] at Hba
  have hx := cmp3_vals a0 a1 a2 a3 a4 a5
  have hz := cmp3_vals a3 a4 a5 a6 a7 a8
  have h0 := cmp3_zero a0 a1 a2 a3 a4 a5
  have t1 := cmp3_trans a0 a1 a2 a3 a4 a5 a6 a7 a8
  have t2 := cmp3_trans a6 a7 a8 a3 a4 a5 a0 a1 a2
  rw [cmp3_anti a3 a4 a5 a6 a7 a8, cmp3_anti a0 a1 a2 a3 a4 a5, cmp3_anti a0 a1 a2 a6 a7 a8] at t2
  generalize cmp3 a0 a1 a2 a3 a4 a5 = x at *
  generalize cmp3 a3 a4 a5 a6 a7 a8 = z at *
  generalize cmp3 a0 a1 a2 a6 a7 a8 = t at *
  clear p0 p1 p2
  rcases hx with rfl | rfl | rfl
  · have u : True := trivial
    by_cases g1 : a0 = a3
    · subst g1
      by_cases g2 : a1 = a4
      · subst g2
        have g3 : (a2 == a5) = false := by
          simp only [beq_eq_false_iff_ne]
          intro h
          simp [h] at h0
        rcases hz with rfl | rfl | rfl
        · exact tot_mm_w3 a0 a1 a2 0 0 a5 a6 a7 a8 t w (by omega) g3 Haa Hab Hba Hbc Hac
        · exact tot_mo_w3 a0 a1 a2 0 0 a5 a6 a7 a8 t w (by omega) g3 Haa Hab Hba Hbc Hac
        · exact tot_mp_w3 a0 a1 a2 0 0 a5 a6 a7 a8 t w g3 Haa Hab Hba Hbc Hac
      · have g2' : (a1 == a4) = false := by simpa using g2
        rcases hz with rfl | rfl | rfl
        · exact tot_mm_w2 a0 a1 a2 0 a4 a5 a6 a7 a8 t w (by omega) g2' Haa Hab Hba Hbc Hac
        · exact tot_mo_w2 a0 a1 a2 0 a4 a5 a6 a7 a8 t w (by omega) g2' Haa Hab Hba Hbc Hac
        · exact tot_mp_w2 a0 a1 a2 0 a4 a5 a6 a7 a8 t w g2' Haa Hab Hba Hbc Hac
    · have g1' : (a0 == a3) = false := by simpa using g1
      rcases hz with rfl | rfl | rfl
      · exact tot_mm_w1 a0 a1 a2 a3 a4 a5 a6 a7 a8 t w (by omega) g1' Haa Hab Hba Hbc Hac
      · exact tot_mo_w1 a0 a1 a2 a3 a4 a5 a6 a7 a8 t w (by omega) g1' Haa Hab Hba Hbc Hac
      · exact tot_mp_w1 a0 a1 a2 a3 a4 a5 a6 a7 a8 t w g1' Haa Hab Hba Hbc Hac
  · obtain ⟨rfl, rfl, rfl⟩ := h0.1 rfl
    rcases hz with rfl | rfl | rfl
    · exact tot_om a0 a1 a2 0 0 0 a6 a7 a8 t w (by omega) Haa Hab Hba Hbc Hac
    · exact tot_oo a0 a1 a2 0 0 0 a6 a7 a8 t w (by omega) (by omega) Haa Hab Hba Hbc Hac
    · exact tot_op a0 a1 a2 0 0 0 a6 a7 a8 t w (by omega) Haa Hab Hba Hbc Hac
  · have u : True := trivial
    by_cases g1 : a0 = a3
    · subst g1
      by_cases g2 : a1 = a4
      · subst g2
        have g3 : (a2 == a5) = false := by
          simp only [beq_eq_false_iff_ne]
          intro h
          simp [h] at h0
        rcases hz with rfl | rfl | rfl
        · exact tot_pm_w3 a0 a1 a2 0 0 a5 a6 a7 a8 t w g3 Haa Hab Hba Hbc Hac
        · exact tot_po_w3 a0 a1 a2 0 0 a5 a6 a7 a8 t w (by omega) g3 Haa Hab Hba Hbc Hac
        · exact tot_pp_w3 a0 a1 a2 0 0 a5 a6 a7 a8 t w (by omega) g3 Haa Hab Hba Hbc Hac
      · have g2' : (a1 == a4) = false := by simpa using g2
        rcases hz with rfl | rfl | rfl
        · exact tot_pm_w2 a0 a1 a2 0 a4 a5 a6 a7 a8 t w g2' Haa Hab Hba Hbc Hac
        · exact tot_po_w2 a0 a1 a2 0 a4 a5 a6 a7 a8 t w (by omega) g2' Haa Hab Hba Hbc Hac
        · exact tot_pp_w2 a0 a1 a2 0 a4 a5 a6 a7 a8 t w (by omega) g2' Haa Hab Hba Hbc Hac
    · have g1' : (a0 == a3) = false := by simpa using g1
      rcases hz with rfl | rfl | rfl
      · exact tot_pm_w1 a0 a1 a2 a3 a4 a5 a6 a7 a8 t w g1' Haa Hab Hba Hbc Hac
      · exact tot_po_w1 a0 a1 a2 a3 a4 a5 a6 a7 a8 t w (by omega) g1' Haa Hab Hba Hbc Hac
      · exact tot_pp_w1 a0 a1 a2 a3 a4 a5 a6 a7 a8 t w (by omega) g1' Haa Hab Hba Hbc Hac
end Go.Proofs.Qxb6601715a
