/-
  addOne (30), ZZaddOne (11): the contract.
-/
import Derived.Test.Qxb6601715aBytes
namespace Go.Proofs.Qxb6601715a
open Go.RowKit

theorem addOne_any (s : ByteArray) (w : World) (hs : s.size ≤ 1048576) :
    Calls Try.prog 30 #[.string s] w fun e w' => ∃ m, Stop s.data.toList m ∧ e = .returned (.string ⟨(out s.data.toList m).toArray⟩) ∧ Below w.heap.size w w' := by
  have hl : s.data.toList.length = s.size := by simp
  have hconv := run_bytes_of_string (P := Try.prog) w 9 35 5 s Try.underlying9 Try.underlying35 Try.underlying5
  have hnew := held_new w s (grownCap w s.size 0 5) (bytesRow s (grownCap w s.size 0 5)).size (bytesRow_size _ _)
  generalize grownCap w s.size 0 5 = cap at hconv hnew
  generalize bytesRow s cap = C at hconv hnew
  generalize hL : s.data.toList = l at *
  have HL : Hid (l.length = s.size) := hl
  clear hL hl
  go_enter Try.func30, Try.ntmps30
  go_wp2
  go_loopw [4] (fun i wr => ∃ m : Nat, m ≤ s.size ∧ ((m = 0 ∧ i = .int .i64 (-1)) ∨ (∃ p : Nat, m = p + 1 ∧ i = .int .i64 (p : Int))) ∧ RunFrom l m ∧ Held wr w.heap.size (cur l m) ∧ Below w.heap.size w wr) (fun i _ => (intOf i + 1).toNat)
  case atStart =>
    refine ⟨s.size, Nat.le_refl _, ?_, by rw [← HL.out]; exact run_end l, ?_, ((Below.refl _ _).alloc (Nat.le_refl _) _).drew⟩
    · by_cases h0 : s.size = 0
      · exact .inl ⟨h0, by rw [h0]; rfl⟩
      · exact .inr ⟨s.size - 1, by omega, by go_num⟩
    · rw [← HL.out, cur_full]; exact hnew
  case round =>
    clear hconv hnew
    obtain ⟨m, hm, hmi, hrun, hheld, hbel⟩ := hrel
    rcases hmi with ⟨rfl, rfl⟩ | ⟨p, rfl, rfl⟩
    · obtain ⟨z, hz⟩ : ∃ z : ByteArray, z = ⟨(cur l 0).toArray⟩ := ⟨_, rfl⟩
      have hzs : z.size ≤ 1048576 := by
        rw [hz]; show (cur l 0).toArray.size ≤ _
        have := cur_len l 0 (Nat.zero_le _)
        have := HL.out
        simp; omega
      have hback := hheld.back s.size cap (by rw [cur_len l 0 (Nat.zero_le _), HL.out]) z hz
      have HZ : Hid (z = ⟨(cur l 0).toArray⟩) := hz
      clear hz hheld
      go_wp2
      go_ret
      refine ⟨0, ⟨Nat.zero_le _, hrun, fun p h => by omega⟩, ?_, hbel⟩
      rw [HZ.out, cur_zero]
      have e : (ByteArray.mk #[49]) ++ ByteArray.mk (List.replicate l.length 48).toArray = ByteArray.mk (out l 0).toArray := ByteArray.mk_append_mk [49] _
      exact congrArg (fun x => Ending.returned (.string x)) e
    · have hpl : p < l.length := by have := HL.out; omega
      have hcl := cur_len l (p + 1) (by omega)
      obtain ⟨b, hb⟩ : ∃ b : UInt8, b = l.getD p 0 := ⟨_, rfl⟩
      have hcf := hheld p (by omega)
      rw [cur_get l p hpl, ← hb] at hcf
      obtain ⟨hc, hf⟩ := hcf
      have hset := hheld.set p (by omega) (b + 1) _ (byte_succ b)
      have hz0 := hheld.set p (by omega) 48 48 rfl
      rw [cur_step l p hpl] at hz0
      have hback := hset.back s.size cap (by rw [List.length_set, hcl, HL.out]) _ rfl
      rw [cur_set l p _ hpl] at hback
      generalize hz : ByteArray.mk (List.take p l ++ (b + 1) :: List.replicate (l.length - (p + 1)) 48).toArray = z at hback
      have HB : Hid (b = l.getD p 0) := hb
      have HZ : Hid (ByteArray.mk (List.take p l ++ (b + 1) :: List.replicate (l.length - (p + 1)) 48).toArray = z) := hz
      have HN : Hid (p < l.length) := hpl
      clear hb hheld hz hset hcl hpl
      go_wp2
      · go_ret
        have hne : ((b.toNat : Int) != 57) = true := by assumption
        refine ⟨p + 1, ⟨HN.out, hrun, fun q hq => ?_⟩, ?_, hbel.setCell (Nat.le_refl _) _⟩
        · obtain rfl : p = q := by omega
          rw [← HB.out]
          exact byte_ne (n := 57) (by omega) hne
        · rw [← HZ.out, HB.out]; rfl
      · have hne : ((b.toNat : Int) != 57) = false := by assumption
        go_roundw
        case rel =>
          refine ⟨p, by omega, ?_, run_step l p hrun (by rw [← HB.out]; exact byte_eq (n := 57) (by omega) hne), hz0, hbel.setCell (Nat.le_refl _) _⟩
          by_cases h0 : p = 0
          · exact .inl ⟨h0, by rw [h0]; rfl⟩
          · exact .inr ⟨p - 1, by omega, by go_num⟩
        case measure => simp [intOf]

theorem zzaddOne_any (s : ByteArray) (w : World) (hs : s.size ≤ 1048576) :
    Calls Try.prog 11 #[.string s] w fun e w' => ∃ m, Stop s.data.toList m ∧ e = .returned (.string ⟨(out s.data.toList m).toArray⟩) ∧ Below w.heap.size w w' := by
  go_enter Try.func11, Try.ntmps11
  go_wp2_with (go_at_call 30; refine (addOne_any s _ hs).mono ?_; rintro r w' ⟨m, hm, rfl, hb⟩)
  go_ret
  exact ⟨m, hm, rfl, hb⟩
end Go.Proofs.Qxb6601715a
