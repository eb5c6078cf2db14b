/-
  THE LAW's WALK: FnAddOneInverse (4).
-/
import Derived.Test.Qxb6601715aAddOne
import Derived.Test.Qxb6601715aInv
namespace Go.Proofs.Qxb6601715a
open Go.RowKit

theorem inverse_walk (s : ByteArray) (hm : s.size ≤ maxLen) (w : World) :
    Calls Try.prog 4 #[.string s] w fun e w' => e = .returned (.bool true) ∧ Below w.heap.size w w' := by
  unfold maxLen at hm
  by_cases h1 : s.size ≤ 1048576
  · by_cases h2 : s.size ≤ 65536
    · by_cases hc : Canon s.data.toList
      · have HC : Hid (Canon s.data.toList) := hc
        clear hc
        go_enter Try.func4, Try.ntmps4
        go_wp2_with (first | (go_at_call 13; go_in) | fail)
        refine (canon_yes s _ (by omega) HC.out).mono ?_
        rintro e w1 ⟨rfl, rfl⟩
        go_wp2_with fail
        refine (zzaddOne_any s _ h1).mono ?_
        rintro e w2 ⟨m, hst, rfl, hb1⟩
        have hcx := canon_out HC.out hst
        have hgx := greater_out HC.out hst
        have hpx := fun m' => prd_out (m' := m') HC.out hst
        have hlen := out_len s.data.toList m hst.1
        have hl : s.data.toList.length = s.size := by simp
        rw [hl] at hlen hgx
        generalize hx : ByteArray.mk (out s.data.toList m).toArray = x
        have hxl : x.data.toList = out s.data.toList m := by rw [← hx]
        have hxs : x.size = (out s.data.toList m).length := by rw [← hx]; show (out s.data.toList m).toArray.size = _; simp
        rw [← hxl] at hcx hgx
        have hxs' : x.size ≤ 1048577 := by omega
        have HX : Hid (x.data.toList = out s.data.toList m) := hxl
        have HXS : Hid (x.size = (out s.data.toList m).length) := hxs
        have HCX : Hid (Canon x.data.toList) := hcx
        have HGX := (show Hid _ from hgx)
        have HPX := (show Hid _ from hpx)
        clear hx hxl hxs hcx hgx hpx hlen hl
        go_wp2_with fail
        refine (canon_yes x _ hxs' HCX.out).mono ?_
        rintro e w3 ⟨rfl, rfl⟩
        go_wp2_with fail
        have hgr : Calls Try.prog 15 #[.string x, .string s] w3 fun e w' => e = .returned (.bool true) ∧ ∃ n, w' = w3.drewN n := by
          rcases HGX.out with h | ⟨h, p, hp, he, hg⟩
          · exact greater_long x s _ (by rw [HXS.out, ← HX.out]; exact h)
          · exact greater_at x s _ hxs' (by rw [HXS.out, ← HX.out]; exact h) p hp he hg
        refine Calls.mono hgr ?_
        rintro e w4 ⟨rfl, n, rfl⟩
        clear hgr
        go_wp2_with fail
        refine (pred_any x _ hxs').mono ?_
        rintro e w5 ⟨m', hst', rfl, hb2⟩
        rw [HX.out] at hst'
        rw [HX.out, HPX.out m' hst']
        have es : ByteArray.mk s.data.toList.toArray = s := by cases s; simp
        rw [es]
        clear es hst hst'
        go_wp2
        go_ret
        exact ⟨rfl, (below_drewN hb1 n).trans (hb2.mono hb1.size)⟩
      · have HC : Hid (¬ Canon s.data.toList) := hc
        clear hc
        go_enter Try.func4, Try.ntmps4
        go_wp2_with (first | (go_at_call 13; go_in) | fail)
        refine (canon_no s _ (by omega) HC.out).mono ?_
        rintro e w1 ⟨rfl, rfl⟩
        go_wp2
        go_ret
        exact ⟨rfl, Below.refl _ _⟩
    · go_enter Try.func4, Try.ntmps4
      go_wp2
      go_ret
      exact ⟨rfl, Below.refl _ _⟩
  · go_enter Try.func4, Try.ntmps4
    go_wp2
    go_ret
    exact ⟨rfl, Below.refl _ _⟩
end Go.Proofs.Qxb6601715a
