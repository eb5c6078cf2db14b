/-
  THE LAW's WALK: FnAccesslogTwoDigitsReadsWrittenPair (6).
-/
import Derived.Test.Qxb6602157aStatus
import Derived.Laws.IdiomStrings
namespace Go.Proofs.Qxb6602157a
open Go.RowKit

/-- 'string(b)' where b's two cells are known. -/
theorem back2 (w : World) (x y : Int) (a b : UInt8) (hx : x = (a.toNat : Int)) (hy : y = (b.toNat : Int)) :
    (convert 28 9 (.slice (some ⟨w.heap.size, 0, none⟩) 2 2)).run Try.prog (w.alloc (.cells #[.int .u8 x, .int .u8 y] 5)) = .ok (.string ⟨#[a, b]⟩) (w.alloc (.cells #[.int .u8 x, .int .u8 y] 5)) := by
  subst hx hy
  refine run_convert_bytes_back (w.alloc (.cells #[.int .u8 (a.toNat : Int), .int .u8 (b.toNat : Int)] 5)) 28 9 5 ⟨w.heap.size, 0, none⟩ 2 [a, b] Try.underlying28 Try.underlying5 Try.underlying9 fun j hj => ?_
  rw [show (⟨w.heap.size, 0, none⟩ : Addr).add j = ⟨w.heap.size, j, none⟩ from by unfold Addr.add; split <;> simp_all, World.cell?_alloc_mark]
  match j, hj with
  | 0, _ => rfl
  | 1, _ => rfl

theorem pair_reads (s t : ByteArray) (a b : UInt8) (N : Nat) (hN : N ≤ 99) (ha : (48 + (N : Int) / 10) = (a.toNat : Int)) (hb : (48 + (N : Int) % 10) = (b.toNat : Int))
    (h1 : s.size < (s ++ ⟨#[a, b]⟩ ++ t).size) (h2 : s.size + 1 < (s ++ ⟨#[a, b]⟩ ++ t).size) :
    two ((s ++ ⟨#[a, b]⟩ ++ t)[s.size]'h1).toNat ((s ++ ⟨#[a, b]⟩ ++ t)[s.size + 1]'h2).toNat = (N : Int) := by
  have hz : (ByteArray.mk #[a, b]).size = 2 := rfl
  have e1 : ((s ++ ⟨#[a, b]⟩ ++ t)[s.size]'h1) = a := by
    rw [ByteArray.getElem_append_left (by simp [ByteArray.size_append, hz]), ByteArray.getElem_append_right (by omega)]
    simp
    rfl
  have e2 : ((s ++ ⟨#[a, b]⟩ ++ t)[s.size + 1]'h2) = b := by
    rw [ByteArray.getElem_append_left (by simp [ByteArray.size_append, hz]), ByteArray.getElem_append_right (by omega)]
    simp
    rfl
  rw [e1, e2]
  unfold two
  rw [if_pos (by omega)]
  omega

theorem zzpair (s t : ByteArray) (a b : UInt8) (N : Nat) (hN : N ≤ 99) (ha : (48 + (N : Int) / 10) = (a.toNat : Int)) (hb : (48 + (N : Int) % 10) = (b.toNat : Int))
    (hs : s.size ≤ 524288) (ht : t.size ≤ 524288) (w : World) :
    Calls Try.prog 17 #[.string (s ++ ⟨#[a, b]⟩ ++ t), .int .i64 (s.size : Int)] w fun e w' => e = .returned (.int .i64 (N : Int)) ∧ ∃ n, w' = w.drewN n := by
  have hz : (s ++ ⟨#[a, b]⟩ ++ t).size = s.size + 2 + t.size := by
    rw [ByteArray.size_append, ByteArray.size_append]; rfl
  have h := zztwo_any (s ++ ⟨#[a, b]⟩ ++ t) s.size w (by omega) (by omega)
  rw [pair_reads s t a b N hN ha hb] at h
  exact h

theorem pair_main (s : ByteArray) (N : Nat) (t : ByteArray) (h1 : s.size ≤ 524288) (h2 : t.size ≤ 524288) (h4 : (N : Int) ≤ 99) (w : World) :
    Calls Try.prog 6 #[.string s, .int .i64 (N : Int), .string t] w fun e w' => e = .returned (.bool true) ∧ Below w.heap.size w w' := by
  obtain ⟨a, ha⟩ : ∃ a : UInt8, (48 + (N : Int) / 10) = (a.toNat : Int) := ⟨UInt8.ofNat (48 + N / 10), by simp; omega⟩
  obtain ⟨b, hb⟩ : ∃ b : UInt8, (48 + (N : Int) % 10) = (b.toNat : Int) := ⟨UInt8.ofNat (48 + N % 10), by simp; omega⟩
  have hback := back2 w _ _ a b ha hb
  have HC := (show Hid _ from fun w => zzpair s t a b N (by omega) ha hb h1 h2 w)
  clear ha hb
  go_enter Try.func6, Try.ntmps6
  go_wp2_with (first | (go_at_call 16; go_in) | fail)
  refine Calls.mono (HC.out _) ?_
  rintro e w1 ⟨rfl, nq, rfl⟩
  clear hback
  go_wp2
  go_ret
  exact ⟨rfl, below_drewN ((Below.refl _ _).alloc (Nat.le_refl _) _) _⟩

theorem pair_walk (s : ByteArray) (n : Int) (t : ByteArray) (hs : s.size ≤ maxLen) (ht : t.size ≤ maxLen) (w : World) :
    Calls Try.prog 6 #[.string s, .int .i64 n, .string t] w fun e w' => e = .returned (.bool true) ∧ Below w.heap.size w w' := by
  unfold maxLen at hs ht
  by_cases h1 : s.size ≤ 524288
  · by_cases h2 : t.size ≤ 524288
    · by_cases h3 : 0 ≤ n
      · by_cases h4 : n ≤ 99
        · obtain ⟨N, rfl⟩ := Int.eq_ofNat_of_zero_le h3
          exact pair_main s N t h1 h2 h4 w
        · go_enter Try.func6, Try.ntmps6
          go_wp2
          go_ret
          exact ⟨rfl, Below.refl _ _⟩
      · go_enter Try.func6, Try.ntmps6
        go_wp2
        go_ret
        exact ⟨rfl, Below.refl _ _⟩
    · go_enter Try.func6, Try.ntmps6
      go_wp2
      all_goals (go_ret; exact ⟨rfl, Below.refl _ _⟩)
  · go_enter Try.func6, Try.ntmps6
    go_wp2
    all_goals (go_ret; exact ⟨rfl, Below.refl _ _⟩)
end Go.Proofs.Qxb6602157a
