/-
  accesslogB1Three (25), accesslogB1StatusBySearch (12): the contracts; THE LAW's WALK: FnAccesslogStatusOfMatchesSearch (3).
-/
import Derived.Test.Qxb6602157aBytes
namespace Go.Proofs.Qxb6602157a
open Go.RowKit

/-- The three digits of N. -/
def three (N : Nat) : List UInt8 := [UInt8.ofNat (48 + N / 100), UInt8.ofNat (48 + N / 10 % 10), UInt8.ofNat (48 + N % 10)]

theorem stat_three (N : Nat) (h1 : 100 ≤ N) (h2 : N ≤ 599) : stat (three N) = (N : Int) := by
  have e0 : at_ (three N) 0 = 48 + N / 100 := by simp [at_, three]; omega
  have e1 : at_ (three N) 1 = 48 + N / 10 % 10 := by simp [at_, three]; omega
  have e2 : at_ (three N) 2 = 48 + N % 10 := by simp [at_, three]; omega
  have el : (three N).length = 3 := rfl
  unfold stat
  rw [if_pos (by omega), e0, e1, e2]
  omega
theorem stat_search (l : List UInt8) (h : ∀ j, 100 ≤ j → j < 600 → l ≠ three j) : stat l = -1 := by
  rcases stat_vals l with e | ⟨h1, h2⟩
  · exact e
  · obtain ⟨N, hN⟩ := Int.eq_ofNat_of_zero_le (show 0 ≤ stat l by omega)
    exact absurd (stat_inj (by omega) (by rw [stat_three N (by omega) (by omega)]; exact hN)) (h N (by omega) (by omega))

theorem len38 : Try.prog.arrayLen 38 = 3 := by kernel_rfl
theorem elem38 : Try.prog.elem 38 = 5 := by kernel_rfl
theorem under38 : Try.prog.underlying 38 = some (.array (Try.prog.arrayLen 38) (Try.prog.elem 38)) := by kernel_rfl
theorem size5' (w : World) : (sizeOf 5).run Try.prog w = .ok 1 w := by kernel_rfl
/-- 'b[:]' of the array of three bytes. -/
theorem slice3 (b : Nat) (w : World) :
    (Instr.sliceAt 38 (.pointer (some ⟨b, 0, none⟩)) none none none).run Try.prog w = .ok (.slice (some ⟨b, 0, none⟩) 3 3) w := by
  rw [run_sliceAt_array_all w 38 ⟨b, 0, none⟩ under38, elem38, size5', len38]
  simp only [Result.andThen, slicedAt]
  rw [if_neg (by omega), show (⟨b, 0, none⟩ : Addr).add (0 * 1) = ⟨b, 0, none⟩ from by unfold Addr.add; split <;> simp_all]

theorem held3 (w : World) (x y z : Int) (a b c : UInt8) (hx : x = (a.toNat : Int)) (hy : y = (b.toNat : Int)) (hz : z = (c.toNat : Int)) :
    Held (w.alloc (.cells #[.int .u8 x, .int .u8 y, .int .u8 z] 38)) w.heap.size [a, b, c] := by
  subst hx hy hz
  intro j hj
  rw [World.cell?_alloc_mark, World.frozen?_alloc_mark]
  match j, hj with
  | 0, _ => exact ⟨rfl, rfl⟩
  | 1, _ => exact ⟨rfl, rfl⟩
  | 2, _ => exact ⟨rfl, rfl⟩

theorem three_any (N : Nat) (h1 : 100 ≤ N) (h2 : N ≤ 599) (w : World) :
    Calls Try.prog 25 #[.int .i64 (N : Int)] w fun e w' => e = .returned (.string ⟨(three N).toArray⟩) ∧ Below w.heap.size w w' := by
  have hh := held3 w (48 + (N : Int) / 100) (48 + (N : Int) / 10 % 10) (48 + (N : Int) % 10) (UInt8.ofNat (48 + N / 100)) (UInt8.ofNat (48 + N / 10 % 10)) (UInt8.ofNat (48 + N % 10))
    (by simp; omega) (by simp; omega) (by simp; omega)
  have hback := Held.back hh 0 3 3 rfl ⟨(three N).toArray⟩ rfl
  have hsl := fun wx => slice3 w.heap.size wx
  generalize ByteArray.mk (three N).toArray = z at hback
  clear hh
  go_enter Try.func25, Try.ntmps25
  go_wp2
  go_ret
  exact ⟨rfl, (Below.refl _ _).alloc (Nat.le_refl _) _⟩

theorem search_any (s : ByteArray) (w : World) :
    Calls Try.prog 12 #[.string s] w fun e w' => e = .returned (.int .i64 (stat s.data.toList)) ∧ Below w.heap.size w w' := by
  go_enter Try.func12, Try.ntmps12
  go_wp2
  go_loopw [3] (fun i wr => ∃ k : Nat, 100 ≤ k ∧ k ≤ 600 ∧ i = .int .i64 (k : Int) ∧ Hid (∀ j, 100 ≤ j → j < k → s.data.toList ≠ three j) ∧ Below w.heap.size w wr) (fun i _ => 600 - (intOf i).toNat)
  case atStart => exact ⟨100, by omega, by omega, rfl, fun j a b => by omega, Below.refl _ _⟩
  case round =>
    obtain ⟨k, hk1, hk2, rfl, hno, hbel⟩ := hrel
    by_cases hlt : k ≤ 599
    · have HC := (show Hid _ from fun w => three_any k hk1 hlt w)
      generalize hz : ByteArray.mk (three k).toArray = z at HC
      have HZ : Hid (ByteArray.mk (three k).toArray = z) := hz
      clear hz
      by_cases he : s.data.toList = three k
      · have he' : (s.toList == z.toList) = true := by
          rw [← HZ.out, ByteArray.toList_eq, ByteArray.toList_mk, he]; simp
        have hst : Hid (stat s.data.toList = (k : Int)) := by show stat s.data.toList = (k : Int); rw [he]; exact stat_three k hk1 hlt
        clear he
        go_wp2_with fail
        refine Calls.mono (HC.out _) ?_
        rintro e w1 ⟨rfl, hb1⟩
        go_wp2
        go_ret
        exact ⟨by rw [hst.out]; rfl, hbel.trans (hb1.mono hbel.size)⟩
      · have he' : (s.toList == z.toList) = false := by
          rw [← HZ.out, ByteArray.toList_eq, ByteArray.toList_mk]; simpa using he
        have HE : Hid (¬ s.data.toList = three k) := he
        clear he
        go_wp2_with fail
        refine Calls.mono (HC.out _) ?_
        rintro e w1 ⟨rfl, hb1⟩
        go_wp2
        go_roundw
        case rel =>
          refine ⟨k + 1, by omega, by omega, by go_num, fun j a b => ?_, hbel.trans (hb1.mono hbel.size)⟩
          by_cases ej : j = k
          · subst ej; exact HE.out
          · exact hno.out j a (by omega)
        case measure => simp [intOf]; omega
    · have hst : Hid (stat s.data.toList = -1) := stat_search _ fun j a b => hno.out j a (by omega)
      clear hno
      go_wp2
      go_ret
      exact ⟨by rw [hst.out]; rfl, hbel⟩

theorem matches_walk (s : ByteArray) (hm : s.size ≤ maxLen) (w : World) :
    Calls Try.prog 3 #[.string s] w fun e w' => e = .returned (.bool true) ∧ Below w.heap.size w w' := by
  have HS := (show Hid _ from fun w => zzstatus_any s w hm)
  have HB := (show Hid _ from fun w => search_any s w)
  unfold maxLen at hm
  generalize stat s.data.toList = x at HS HB
  by_cases h1 : s.size ≤ 1048576
  · go_enter Try.func3, Try.ntmps3
    go_wp2_with (first | (go_at_call 10; go_in) | fail)
    refine Calls.mono (HS.out _) ?_
    rintro e w1 ⟨rfl, n1, rfl⟩
    go_wp2_with fail
    refine Calls.mono (HB.out _) ?_
    rintro e w2 ⟨rfl, hb⟩
    go_wp2
    go_ret
    exact ⟨rfl, (below_drewN (Below.refl _ _) _).trans hb⟩
  · go_enter Try.func3, Try.ntmps3
    go_wp2
    go_ret
    exact ⟨rfl, Below.refl _ _⟩
end Go.Proofs.Qxb6602157a
