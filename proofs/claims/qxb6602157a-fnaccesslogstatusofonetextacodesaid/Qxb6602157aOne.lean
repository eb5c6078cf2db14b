/-
  THE LAW's WALK: FnAccesslogStatusOfOneTextACode (5); accesslogB1IsStatus (15).
-/
import Derived.Test.Qxb6602157aStat
namespace Go.Proofs.Qxb6602157a
open Go.RowKit

theorem is_status (v : Int) (h : v = -1 ∨ (100 ≤ v ∧ v ≤ 599)) (w : World) :
    Calls Try.prog 15 #[.int .i64 v] w fun e w' => e = .returned (.bool true) ∧ w' = w := by
  rcases h with rfl | ⟨h1, h2⟩
  · go_enter Try.func15, Try.ntmps15
    go_wp2
    go_ret
    exact ⟨rfl, rfl⟩
  · have h3 : (v == -1) = false := by simp; omega
    go_enter Try.func15, Try.ntmps15
    go_wp2
    go_ret
    exact ⟨rfl, rfl⟩

/-- The two codes, and whether they are equal, known ahead. -/
theorem one_main (a b : ByteArray) (hs : a.size + b.size ≤ 1048576) (x y : Int) (hx : x = -1 ∨ (100 ≤ x ∧ x ≤ 599)) (hy : y = -1 ∨ (100 ≤ y ∧ y ≤ 599)) (hxy : 0 ≤ x → x = y → a = b)
    (Hx : ∀ w, Calls Try.prog 11 #[.string a] w fun e w' => e = .returned (.int .i64 x) ∧ ∃ n, w' = w.drewN n)
    (Hy : ∀ w, Calls Try.prog 11 #[.string b] w fun e w' => e = .returned (.int .i64 y) ∧ ∃ n, w' = w.drewN n) (w : World) :
    Calls Try.prog 5 #[.string a, .string b] w fun e w' => e = .returned (.bool true) ∧ Below w.heap.size w w' := by
  have ISX := (show Hid _ from fun w => is_status x hx w)
  have ISY := (show Hid _ from fun w => is_status y hy w)
  have HX := (show Hid _ from Hx)
  have HY := (show Hid _ from Hy)
  have HE := (show Hid _ from hxy)
  clear Hx Hy hxy hy
  have g1 : a.size ≤ 1048576 := by omega
  have g2 : b.size ≤ 1048576 := by omega
  by_cases h0 : 0 ≤ x
  · by_cases e : x = y
    · obtain rfl := HE.out h0 e
      subst e
      have e' : (x == x) = true := by simp
      clear HE hx
      go_enter Try.func5, Try.ntmps5
      go_wp2_with (first | (go_at_call 14; go_in) | fail)
      refine Calls.mono (HX.out _) ?_
      rintro e w1 ⟨rfl, n1, rfl⟩
      go_wp2_with fail
      refine Calls.mono (HX.out _) ?_
      rintro e w1 ⟨rfl, n2, rfl⟩
      go_wp2_with fail
      refine Calls.mono (ISX.out _) ?_
      rintro e w1 ⟨rfl, rfl⟩
      go_wp2_with fail
      refine Calls.mono (ISX.out _) ?_
      rintro e w1 ⟨rfl, rfl⟩
      go_wp2
      go_ret
      exact ⟨rfl, below_drewN (Below.refl _ _) _⟩
    · have e' : (x == y) = false := by simpa using e
      clear HE e hx
      go_enter Try.func5, Try.ntmps5
      go_wp2_with (first | (go_at_call 14; go_in) | fail)
      refine Calls.mono (HX.out _) ?_
      rintro e w1 ⟨rfl, n1, rfl⟩
      go_wp2_with fail
      refine Calls.mono (HY.out _) ?_
      rintro e w1 ⟨rfl, n2, rfl⟩
      go_wp2_with fail
      refine Calls.mono (ISX.out _) ?_
      rintro e w1 ⟨rfl, rfl⟩
      go_wp2_with fail
      refine Calls.mono (ISY.out _) ?_
      rintro e w1 ⟨rfl, rfl⟩
      go_wp2
      go_ret
      exact ⟨rfl, below_drewN (Below.refl _ _) _⟩
  · have h0' : decide (0 ≤ x) = false := by simpa using h0
    clear HE hx
    go_enter Try.func5, Try.ntmps5
    go_wp2_with (first | (go_at_call 14; go_in) | fail)
    refine Calls.mono (HX.out _) ?_
    rintro e w1 ⟨rfl, n1, rfl⟩
    go_wp2_with fail
    refine Calls.mono (HY.out _) ?_
    rintro e w1 ⟨rfl, n2, rfl⟩
    go_wp2_with fail
    refine Calls.mono (ISX.out _) ?_
    rintro e w1 ⟨rfl, rfl⟩
    go_wp2_with fail
    refine Calls.mono (ISY.out _) ?_
    rintro e w1 ⟨rfl, rfl⟩
    go_wp2
    go_ret
    exact ⟨rfl, below_drewN (Below.refl _ _) _⟩

theorem one_walk (a b : ByteArray) (ha : a.size ≤ maxLen) (hb : b.size ≤ maxLen) (w : World) :
    Calls Try.prog 5 #[.string a, .string b] w fun e w' => e = .returned (.bool true) ∧ Below w.heap.size w w' := by
  by_cases hs : a.size + b.size ≤ 1048576
  · refine one_main a b hs _ _ (stat_vals a.data.toList) (stat_vals b.data.toList) (fun h e => ?_) (fun w => zzstatus_any a w ha) (fun w => zzstatus_any b w hb) w
    have := stat_inj h e
    cases a; cases b
    simp at this
    rw [this]
  · unfold maxLen at ha hb
    go_enter Try.func5, Try.ntmps5
    go_wp2
    all_goals (go_ret; exact ⟨rfl, Below.refl _ _⟩)
end Go.Proofs.Qxb6602157a
