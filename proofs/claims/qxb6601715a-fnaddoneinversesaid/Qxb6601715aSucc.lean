/-
  zeroDigits (31), successorByTrailingNines (12): the contracts.
-/
import Derived.Test.Qxb6601715aBytes
import Derived.Deep.QuietTactic
import Derived.BigQuiet
namespace Go.Proofs.Qxb6601715a
open Go.RowKit

theorem Try.info5 : (Try.prog.info? 5).map (fun i => (i.zero, i.size, i.bytes)) = some (some (.int .u8 0), 1, 1) := by kernel_rfl

/-- 'make([]byte, n)': a new block of n zero bytes. -/
theorem make_bytes (w : World) (n : Nat) (hn : n ≤ 1048576) :
    ∃ C : Array Value, (Instr.makeSlice 35 (.int .i64 (n : Int)) (.int .i64 (n : Int))).run Try.prog w = .ok (.slice (some ⟨w.heap.size, 0, none⟩) n n) (w.alloc (.cells C 5)) ∧
      Held (w.alloc (.cells C 5)) w.heap.size (List.replicate n 0) := by
  obtain ⟨i0, hi, hz0, hz1, hz2⟩ := info_parts Try.info5
  have h := run_make (P := Try.prog) w 35 5 i0 _ Try.underlying35 hi hz0 .i64 .i64 (n : Int) (n : Int) (by omega) (by omega) (by rw [hz2]; omega) (by omega)
  simp only [Int.toNat_natCast] at h
  refine ⟨_, h, fun j hj => ?_⟩
  rw [List.length_replicate] at hj
  rw [World.cell?_alloc_mark, World.frozen?_alloc_mark, hz1]
  refine ⟨?_, by simp⟩
  simp [madeCells, Value.cells, hj, List.getD_eq_getElem?_getD, Nat.mod_one]

theorem zeros_any (n : Nat) (w : World) (hn : n ≤ 1048576) :
    Calls Try.prog 31 #[.int .i64 (n : Int)] w fun e w' => e = .returned (.string ⟨(List.replicate n 48).toArray⟩) ∧ Below w.heap.size w w' := by
  obtain ⟨C, hmk, hnew⟩ := make_bytes w n hn
  go_enter Try.func31, Try.ntmps31
  go_wp2
  go_loopw [4] (fun i wr => ∃ k : Nat, k ≤ n ∧ i = .int .i64 (k : Int) ∧ Held wr w.heap.size (List.replicate k 48 ++ List.replicate (n - k) 0) ∧ Below w.heap.size w wr) (fun i _ => n - (intOf i).toNat)
  case atStart => exact ⟨0, Nat.zero_le _, rfl, by simpa using hnew, (Below.refl _ _).alloc (Nat.le_refl _) _⟩
  case round =>
    clear hmk hnew
    obtain ⟨k, hk, rfl, hheld, hbel⟩ := hrel
    by_cases hlt : k < n
    · have hcf := hheld k (by simp; omega)
      have hset := hheld.set k (by simp; omega) 48 48 rfl
      have e : (List.replicate k (48 : UInt8) ++ List.replicate (n - k) 0).set k 48 = List.replicate (k + 1) 48 ++ List.replicate (n - (k + 1)) 0 := by
        rw [List.set_append_right _ _ (by simp)]
        simp only [List.length_replicate, Nat.sub_self]
        rw [show n - k = (n - (k + 1)) + 1 by omega, List.replicate_succ, List.set_cons_zero, List.replicate_succ' (n := k)]
        simp
      rw [e] at hset
      obtain ⟨hc, hf⟩ := hcf
      clear e hheld
      generalize (((List.replicate k (48 : UInt8) ++ List.replicate (n - k) 0).getD k 0).toNat : Int) = b at hc
      go_wp2
      go_roundw
      case rel => exact ⟨k + 1, by omega, by go_num, hset, hbel.setCell (Nat.le_refl _) _⟩
      case measure => simp [intOf]; omega
    · obtain rfl : k = n := by omega
      have hback := hheld.back k k (by simp) _ rfl
      rw [Nat.sub_self, List.replicate_zero, List.append_nil] at hback
      generalize hz : ByteArray.mk (List.replicate k (48 : UInt8)).toArray = z at hback
      have HZ : Hid (ByteArray.mk (List.replicate k (48 : UInt8)).toArray = z) := hz
      clear hheld hz
      go_wp2
      go_ret
      exact ⟨by rw [HZ.out]; rfl, hbel⟩

theorem byte_at (s : ByteArray) (p : Nat) (h : p < s.size) : s[p] = s.data.toList.getD p 0 := by
  have h' : p < s.data.size := h
  rw [List.getD_eq_getElem?_getD, Array.getElem?_toList, Array.getElem?_eq_getElem h']
  rfl
theorem byte_eq' {b : UInt8} {n : Nat} (hn : n < 256) (h : ((b.toNat : Int) == (n : Int)) = true) : b = UInt8.ofNat n := by
  apply UInt8.toNat_inj.1
  simp at h
  simp; omega
theorem byte_ne' {b : UInt8} {n : Nat} (hn : n < 256) (h : ((b.toNat : Int) == (n : Int)) = false) : b ≠ UInt8.ofNat n := by
  intro e; subst e
  simp at h
  omega

theorem text_eq (s : ByteArray) (p k : Nat) (hp : p < s.size) (hk : k = s.size - (p + 1)) :
    s.extract 0 p ++ ⟨#[s[p] + 1]⟩ ++ ⟨(List.replicate k (48 : UInt8)).toArray⟩ = ⟨(out s.data.toList (p + 1)).toArray⟩ := by
  have hl : s.data.toList.length = s.size := by simp
  rw [byte_at s p hp]
  have e : s = ⟨s.data.toList.toArray⟩ := by cases s; simp
  generalize s.data.toList = l at *
  subst e
  subst hk
  rw [ByteArray.extract_mk]
  have e2 : (ByteArray.mk #[l.getD p 0 + 1]) = ByteArray.mk [l.getD p 0 + 1].toArray := rfl
  rw [e2, ByteArray.mk_append_mk, ByteArray.mk_append_mk, ← hl]
  simp [out]

theorem succ_any (s : ByteArray) (w : World) (hs : s.size ≤ 1048576) :
    Calls Try.prog 12 #[.string s] w fun e w' => ∃ m, Stop s.data.toList m ∧ e = .returned (.string ⟨(out s.data.toList m).toArray⟩) ∧ Below w.heap.size w w' := by
  have hl : Hid (s.data.toList.length = s.size) := by show s.data.toList.length = s.size; simp
  go_enter Try.func12, Try.ntmps12
  go_wp2
  go_loop [3] (fun i => ∃ k : Nat, k ≤ s.size ∧ i = .int .i64 (k : Int) ∧ RunFrom s.data.toList (s.size - k)) (fun i => s.size - (intOf i).toNat)
  case atStart => exact ⟨0, Nat.zero_le _, rfl, by rw [Nat.sub_zero, ← hl.out]; exact run_end _⟩
  case round =>
    obtain ⟨k, hk, rfl, hrun⟩ := hrel
    by_cases hlt : k < s.size
    · have hd : decide ((k : Int) < (s.size : Int)) = true := by simpa using hlt
      go_wp2_with fail
      · have h9 : ((s[s.size - 1 - k].toNat : Int) == 57) = true := by assumption
        go_round
        case rel => exact ⟨k + 1, by omega, by go_num, by rw [show s.size - (k + 1) = s.size - 1 - k by omega]; exact run_step _ _ (by rw [show s.size - 1 - k + 1 = s.size - k by omega]; exact hrun) (by rw [← byte_at s _ (by omega)]; exact byte_eq' (n := 57) (by omega) h9)⟩
        case measure => simp [intOf]; omega
      · have h9 : ((s[s.size - 1 - k].toNat : Int) == 57) = false := by assumption
        refine (zeros_any k _ (by omega)).mono ?_
        rintro e w1 ⟨rfl, hb⟩
        generalize hz : ByteArray.mk (List.replicate k (48 : UInt8)).toArray = z
        have hzs : z.size ≤ 1048576 := by subst hz; show (List.replicate k (48 : UInt8)).toArray.size ≤ _; simp; omega
        have HZ : Hid (ByteArray.mk (List.replicate k (48 : UInt8)).toArray = z) := hz
        clear hz
        have hkne : ((k : Int) == (s.size : Int)) = false := by simp; omega
        obtain ⟨b, hb1⟩ : ∃ b : UInt8, b = s[s.size - 1 - k] := ⟨_, rfl⟩
        have hh : Held (w1.alloc (.cells #[.int .u8 (((s[s.size - 1 - k].toNat : Int) + 1) % 256)] 5)) w1.heap.size [b + 1] := by
          intro j hj
          obtain rfl : j = 0 := by simpa using hj
          rw [World.cell?_alloc_mark, World.frozen?_alloc_mark, ← hb1, byte_succ]
          exact ⟨rfl, rfl⟩
        have hback : ∀ nq, (convert 35 9 (.slice (some ⟨w1.heap.size, 0, none⟩) 1 1)).run Try.prog ((w1.alloc (.cells #[.int .u8 (((s[s.size - 1 - k].toNat : Int) + 1) % 256)] 5)).drewN nq) = .ok (.string ⟨#[b + 1]⟩) ((w1.alloc (.cells #[.int .u8 (((s[s.size - 1 - k].toNat : Int) + 1) % 256)] 5)).drewN nq) :=
          fun nq => Held.back (w := (w1.alloc (.cells #[.int .u8 (((s[s.size - 1 - k].toNat : Int) + 1) % 256)] 5)).drewN nq) (b := w1.heap.size) (l := [b + 1]) hh 1 1 rfl _ rfl
        have HB : Hid (b = s[s.size - 1 - k]) := hb1
        clear hh hb1
        go_wp2
        go_quiet (fail)
        go_wp2
        go_ret
        have hn : s.size - 1 - k < s.size := by omega
        refine ⟨s.size - 1 - k + 1, ⟨by rw [hl.out]; omega, by rw [show s.size - 1 - k + 1 = s.size - k by omega]; exact hrun, fun q hq => ?_⟩, ?_, below_drewN (hb.alloc hb.size _) _⟩
        · obtain rfl : s.size - 1 - k = q := by omega
          rw [← byte_at s _ hn]
          exact byte_ne' (n := 57) (by omega) h9
        · refine congrArg (fun x => Ending.returned (.string x)) ?_
          rw [← HZ.out, HB.out]
          exact text_eq s (s.size - 1 - k) k hn (by omega)
    · obtain rfl : k = s.size := by omega
      have hd : decide ((s.size : Int) < (s.size : Int)) = false := by simp
      go_wp2_with fail
      refine (zeros_any s.size _ (by omega)).mono ?_
      rintro e w1 ⟨rfl, hb⟩
      generalize hz : ByteArray.mk (List.replicate s.size (48 : UInt8)).toArray = z
      have hzs : z.size ≤ 1048576 := by subst hz; show (List.replicate s.size (48 : UInt8)).toArray.size ≤ _; simp; omega
      have HZ : Hid (ByteArray.mk (List.replicate s.size (48 : UInt8)).toArray = z) := hz
      clear hz
      go_wp2
      go_ret
      refine ⟨0, ⟨Nat.zero_le _, by rw [Nat.sub_self] at hrun; exact hrun, fun p h => by omega⟩, ?_, hb⟩
      rw [← HZ.out, ← hl.out]
      have e : (ByteArray.mk #[49]) ++ ByteArray.mk (List.replicate s.data.toList.length 48).toArray = ByteArray.mk (out s.data.toList 0).toArray := ByteArray.mk_append_mk [49] _
      exact congrArg (fun x => Ending.returned (.string x)) e
end Go.Proofs.Qxb6601715a
