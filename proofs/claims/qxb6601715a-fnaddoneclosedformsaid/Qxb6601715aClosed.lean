/-
  THE LAW's WALK: FnAddOneClosedForm (3).
-/
import Derived.Test.Qxb6601715aAddOne
import Derived.Test.Qxb6601715aSucc
namespace Go.Proofs.Qxb6601715a
open Go.RowKit

theorem closed_walk (s : ByteArray) (hm : s.size ≤ maxLen) (w : World) :
    Calls Try.prog 3 #[.string s] w fun e w' => e = .returned (.bool true) ∧ Below w.heap.size w w' := by
  unfold maxLen at hm
  by_cases h1 : s.size ≤ 1048576
  · by_cases h2 : s.size ≤ 65536
    · go_enter Try.func3, Try.ntmps3
      go_wp2_with (first | (go_at_call 10; go_in) | fail)
      refine (zzaddOne_any s _ h1).mono ?_
      rintro e w1 ⟨m, hm1, rfl, hb1⟩
      generalize hx : ByteArray.mk (out s.data.toList m).toArray = x
      have HX : Hid (ByteArray.mk (out s.data.toList m).toArray = x) := hx
      clear hx
      go_wp2_with fail
      refine (succ_any s _ h1).mono ?_
      rintro e w2 ⟨m', hm2, rfl, hb2⟩
      obtain rfl := stop_unique hm1 hm2
      rw [HX.out]
      clear hm1 hm2
      go_wp2
      go_ret
      exact ⟨rfl, hb1.trans (hb2.mono hb1.size)⟩
    · go_enter Try.func3, Try.ntmps3
      go_wp2
      go_ret
      exact ⟨rfl, Below.refl _ _⟩
  · go_enter Try.func3, Try.ntmps3
    go_wp2
    go_ret
    exact ⟨rfl, Below.refl _ _⟩
end Go.Proofs.Qxb6601715a
