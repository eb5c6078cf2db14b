/-
  THE LAW's WALK: FnAccesslogStatusOfReadsDecimal (4).
-/
import Derived.Test.Qxb6602157aItoa
namespace Go.Proofs.Qxb6602157a
open Go.RowKit

/-- The two calls, one behind the other. -/
theorem text_stat (t : List UInt8) (ht : t.length ≤ 24) (w : World) (x : Int) (hx : stat t = x) :
    Calls Try.prog 11 #[.string ⟨t.toArray⟩] w fun e w' => e = .returned (.int .i64 x) ∧ ∃ n, w' = w.drewN n := by
  have h := zzstatus_any ⟨t.toArray⟩ w (by show t.toArray.size ≤ maxLen; unfold maxLen; simp; omega)
  rw [show (ByteArray.mk t.toArray).data.toList = t by simp, hx] at h
  exact h

theorem dec_neg (n : Int) (h0 : n < 0) (h1 : -9223372036854775808 ≤ n) (w : World) :
    Calls Try.prog 4 #[.int .i64 n] w fun e w' => e = .returned (.bool true) ∧ Below w.heap.size w w' := by
  go_enter Try.func4, Try.ntmps4
  go_wp2_with fail
  refine (itoa_neg n h0 h1 _).mono ?_
  rintro e w1 ⟨t, ht, hl, rfl, hb⟩
  have HT := (show Hid _ from fun w => text_stat t hl w (-1) (stat_minus ht))
  generalize ByteArray.mk t.toArray = z at *
  clear ht hl
  go_wp2_with fail
  refine Calls.mono (HT.out _) ?_
  rintro e w2 ⟨rfl, nq, rfl⟩
  go_wp2
  go_ret
  exact ⟨rfl, below_drewN hb _⟩

theorem dec_out (U : Nat) (h : (U : Int) < 100 ∨ (599 : Int) < (U : Int)) (h1 : (U : Int) ≤ 9223372036854775807) (w : World) :
    Calls Try.prog 4 #[.int .i64 (U : Int)] w fun e w' => e = .returned (.bool true) ∧ Below w.heap.size w w' := by
  rcases h with h | h
  · go_enter Try.func4, Try.ntmps4
    go_wp2_with fail
    refine (itoa_pos U h1 _).mono ?_
    rintro e w1 ⟨t, ht, hl, rfl, hb⟩
    have HT := (show Hid _ from fun w => text_stat t hl w (-1) ((stat_dec ht).trans (if_neg (by omega))))
    generalize ByteArray.mk t.toArray = z at *
    clear ht hl
    go_wp2_with fail
    refine Calls.mono (HT.out _) ?_
    rintro e w2 ⟨rfl, nq, rfl⟩
    go_wp2
    go_ret
    exact ⟨rfl, below_drewN hb _⟩
  · have h100 : (100 : Int) ≤ (U : Int) := by omega
    go_enter Try.func4, Try.ntmps4
    go_wp2_with fail
    refine (itoa_pos U h1 _).mono ?_
    rintro e w1 ⟨t, ht, hl, rfl, hb⟩
    have HT := (show Hid _ from fun w => text_stat t hl w (-1) ((stat_dec ht).trans (if_neg (by omega))))
    generalize ByteArray.mk t.toArray = z at *
    clear ht hl
    go_wp2_with fail
    refine Calls.mono (HT.out _) ?_
    rintro e w2 ⟨rfl, nq, rfl⟩
    go_wp2
    go_ret
    exact ⟨rfl, below_drewN hb _⟩

theorem dec_in (U : Nat) (h : (100 : Int) ≤ (U : Int)) (h2 : (U : Int) ≤ 599) (w : World) :
    Calls Try.prog 4 #[.int .i64 (U : Int)] w fun e w' => e = .returned (.bool true) ∧ Below w.heap.size w w' := by
  go_enter Try.func4, Try.ntmps4
  go_wp2_with fail
  refine (itoa_pos U (by omega) _).mono ?_
  rintro e w1 ⟨t, ht, hl, rfl, hb⟩
  have HT := (show Hid _ from fun w => text_stat t hl w (U : Int) ((stat_dec ht).trans (if_pos (by omega))))
  generalize ByteArray.mk t.toArray = z at *
  clear ht hl
  go_wp2_with fail
  refine Calls.mono (HT.out _) ?_
  rintro e w2 ⟨rfl, nq, rfl⟩
  go_wp2
  go_ret
  exact ⟨rfl, below_drewN hb _⟩

theorem decimal_walk (n : Int) (hw : (Lit.int .i64 n).wf = true) (w : World) :
    Calls Try.prog 4 #[.int .i64 n] w fun e w' => e = .returned (.bool true) ∧ Below w.heap.size w w' := by
  have hb : -9223372036854775808 ≤ n ∧ n ≤ 9223372036854775807 := by
    simp [Lit.wf, IntKind.min, IntKind.max, IntKind.signed, IntKind.bits] at hw
    omega
  by_cases h0 : n < 0
  · exact dec_neg n h0 hb.1 w
  · obtain ⟨U, rfl⟩ := Int.eq_ofNat_of_zero_le (show 0 ≤ n by omega)
    by_cases h1 : (U : Int) < 100
    · exact dec_out U (.inl h1) hb.2 w
    · by_cases h2 : (599 : Int) < (U : Int)
      · exact dec_out U (.inr h2) hb.2 w
      · exact dec_in U (by omega) (by omega) w
end Go.Proofs.Qxb6602157a
