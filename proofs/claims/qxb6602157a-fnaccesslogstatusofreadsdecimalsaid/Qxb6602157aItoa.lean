/-
  accesslogB1Itoa (13): the contract.
-/
import Derived.Test.Qxb6602157aDec
namespace Go.Proofs.Qxb6602157a
open Go.RowKit

theorem zeros24 (w : World) :
    Held (w.alloc (.cells #[.int .u8 0, .int .u8 0, .int .u8 0, .int .u8 0, .int .u8 0, .int .u8 0, .int .u8 0, .int .u8 0, .int .u8 0, .int .u8 0, .int .u8 0, .int .u8 0,
      .int .u8 0, .int .u8 0, .int .u8 0, .int .u8 0, .int .u8 0, .int .u8 0, .int .u8 0, .int .u8 0, .int .u8 0, .int .u8 0, .int .u8 0, .int .u8 0] 36)) w.heap.size (List.replicate 24 0) := by
  refine held_zeros w 24 36 (Array.replicate 24 (.int .u8 0)) fun j hj => ?_
  simp [hj]

theorem len36 : Try.prog.arrayLen 36 = 24 := by kernel_rfl
theorem elem36 : Try.prog.elem 36 = 5 := by kernel_rfl
theorem under36 : Try.prog.underlying 36 = some (.array (Try.prog.arrayLen 36) (Try.prog.elem 36)) := by kernel_rfl
theorem size5 (w : World) : (sizeOf 5).run Try.prog w = .ok 1 w := by kernel_rfl
/-- 'b[q:]' of the array of 24 bytes. -/
theorem slice24 (b q : Nat) (hq : q ≤ 23) (w : World) :
    (Instr.sliceAt 36 (.pointer (some ⟨b, 0, none⟩)) (some (.int .i64 (q : Int))) none none).run Try.prog w = .ok (.slice (some ⟨b, q, none⟩) (24 - q) (24 - q)) w := by
  rw [run_sliceAt_array_l w 36 ⟨b, 0, none⟩ under36 .i64 (q : Int) (by omega) (by rw [len36]; omega), elem36, size5, len36]
  simp only [Result.andThen, slicedAt, Int.toNat_natCast]
  rw [if_neg (by omega), show (⟨b, 0, none⟩ : Addr).add (q * 1) = ⟨b, q, none⟩ from by unfold Addr.add; split <;> simp_all]

theorem itoa_pos (U : Nat) (h1 : (U : Int) ≤ 9223372036854775807) (w : World) :
    Calls Try.prog 13 #[.int .i64 (U : Int)] w fun e w' => ∃ t : List UInt8, Dec U t ∧ t.length ≤ 24 ∧ e = .returned (.string ⟨t.toArray⟩) ∧ Below w.heap.size w w' := by
  have hU : U < 18446744073709551616 := by omega
  have hnew := zeros24 w
  have HNEW := (show Hid _ from hnew)
  clear hnew
  go_enter Try.func13, Try.ntmps13
  go_wp2
  go_loopw [4, 5] (fun i u wr => ∃ (q v : Nat) (B : List UInt8), i = .int .i64 ((q : Int) + 1) ∧ u = .int .u64 (v : Int) ∧ Inv U B q v ∧ Held wr w.heap.size B ∧ Below w.heap.size w wr) (fun _ u _ => (intOf u).toNat)
  case atStart => exact ⟨23, U, _, rfl, by go_num, inv_start U, HNEW.out, (Below.refl _ _).alloc (Nat.le_refl _) _⟩
  case round =>
    clear HNEW
    obtain ⟨q, v, B, rfl, rfl, hinv, hheld, hbel⟩ := hrel
    have hlo := inv_lo hinv hU
    have hhi : q ≤ 23 := hinv.1
    have hv := inv_le hinv
    have hBl : B.length = 24 := hinv.2.1
    obtain ⟨d, hd⟩ : ∃ d : UInt8, d.toNat = 48 + v % 10 := ⟨UInt8.ofNat (48 + v % 10), by simp; omega⟩
    have hdi : 48 + (v : Int) % 10 = (d.toNat : Int) := by omega
    obtain ⟨hc, hf⟩ := hheld q (by omega)
    generalize (at_ B q : Int) = c at hc
    have hset := hheld.set q (by omega) d _ hdi
    have HD : Hid (d.toNat = 48 + v % 10) := hd
    have HBL : Hid (B.length = 24) := hBl
    have HS := (show Hid _ from hset)
    have HI : Hid (Inv U B q v) := hinv
    clear hheld hset hd hdi hBl hinv
    by_cases h10 : v < 10
    · have hz : ((v : Int) / 10 == 0) = true := by simp; omega
      have hback := Held.back HS.out q (24 - q) (24 - q) (by simp [HBL.out]) _ rfl
      have hdec := inv_done HI.out d HD.out (by omega)
      generalize hzz : ByteArray.mk ((B.set q d).drop q).toArray = z at hback
      have HZ : Hid (ByteArray.mk ((B.set q d).drop q).toArray = z) := hzz
      have HDEC := (show Hid _ from hdec)
      clear hzz hdec
      have hsl := fun wx => slice24 w.heap.size q hhi wx
      go_wp2
      go_ret
      exact ⟨_, HDEC.out, by simp [HBL.out], by rw [HZ.out]; rfl, hbel.setCell (Nat.le_refl _) _⟩
    · have hz : ((v : Int) / 10 == 0) = false := by simp; omega
      obtain ⟨r, rfl⟩ : ∃ r, q = r + 1 := ⟨q - 1, by omega⟩
      go_wp2
      go_roundw
      case rel => exact ⟨r, v / 10, _, by go_num, by go_num, inv_step HI.out d HD.out (by omega), HS.out, hbel.setCell (Nat.le_refl _) _⟩
      case measure => simp [intOf]; omega

theorem itoa_neg (n : Int) (h0 : n < 0) (h1 : -9223372036854775808 ≤ n) (w : World) :
    Calls Try.prog 13 #[.int .i64 n] w fun e w' => ∃ t : List UInt8, at_ t 0 = 45 ∧ t.length ≤ 24 ∧ e = .returned (.string ⟨t.toArray⟩) ∧ Below w.heap.size w w' := by
  obtain ⟨U, hUn⟩ : ∃ U : Nat, (U : Int) = -(n + 1) + 1 := ⟨(-n).toNat, by omega⟩
  have hU : U < 18446744073709551616 := by omega
  have HU : Hid ((U : Int) = -(n + 1) + 1) := hUn
  clear hUn
  have hnew := zeros24 w
  have HNEW := (show Hid _ from hnew)
  clear hnew
  go_enter Try.func13, Try.ntmps13
  go_wp2
  go_loopw [4, 5] (fun i u wr => ∃ (q v : Nat) (B : List UInt8), i = .int .i64 ((q : Int) + 1) ∧ u = .int .u64 (v : Int) ∧ Inv U B q v ∧ Held wr w.heap.size B ∧ Below w.heap.size w wr) (fun _ u _ => (intOf u).toNat)
  case atStart => exact ⟨23, U, _, rfl, by rw [HU.out], inv_start U, HNEW.out, (Below.refl _ _).alloc (Nat.le_refl _) _⟩
  case round =>
    clear HNEW
    obtain ⟨q, v, B, rfl, rfl, hinv, hheld, hbel⟩ := hrel
    have hlo := inv_lo hinv hU
    have hhi : q ≤ 23 := hinv.1
    have hv := inv_le hinv
    have hBl : B.length = 24 := hinv.2.1
    obtain ⟨d, hd⟩ : ∃ d : UInt8, d.toNat = 48 + v % 10 := ⟨UInt8.ofNat (48 + v % 10), by simp; omega⟩
    have hdi : 48 + (v : Int) % 10 = (d.toNat : Int) := by omega
    obtain ⟨hc, hf⟩ := hheld q (by omega)
    generalize (at_ B q : Int) = c at hc
    have hset := hheld.set q (by omega) d _ hdi
    have HD : Hid (d.toNat = 48 + v % 10) := hd
    have HBL : Hid (B.length = 24) := hBl
    have HS := (show Hid _ from hset)
    have HI : Hid (Inv U B q v) := hinv
    clear hheld hset hd hdi hBl hinv
    by_cases h10 : v < 10
    · have hz : ((v : Int) / 10 == 0) = true := by simp; omega
      obtain ⟨r, rfl⟩ : ∃ r, q = r + 1 := ⟨q - 1, by omega⟩
      have hset2 := Held.set HS.out r (by simp [HBL.out]; omega) 45 45 rfl
      obtain ⟨hc2, hf2⟩ := HS.out r (by simp [HBL.out]; omega)
      generalize (at_ (B.set (r + 1) d) r : Int) = c2 at hc2
      have hback := hset2.back r (24 - r) (24 - r) (by simp [HBL.out]) _ rfl
      have hm : at_ ((((B.set (r + 1) d).set r 45)).drop r) 0 = 45 := by
        rw [at_drop]; show at_ ((B.set (r + 1) d).set r 45) r = 45; rw [at_set_same _ r (by simp [HBL.out]; omega)]; rfl
      generalize hzz : ByteArray.mk (((B.set (r + 1) d).set r 45).drop r).toArray = z at hback
      have HZ : Hid (ByteArray.mk (((B.set (r + 1) d).set r 45).drop r).toArray = z) := hzz
      have HM := (show Hid _ from hm)
      clear hzz hm hset2
      have hsl := fun wx => slice24 w.heap.size r (by omega) wx
      go_wp2
      go_ret
      exact ⟨_, HM.out, by simp [HBL.out], by rw [HZ.out]; rfl, (hbel.setCell (Nat.le_refl _) _).setCell (Nat.le_refl _) _⟩
    · have hz : ((v : Int) / 10 == 0) = false := by simp; omega
      obtain ⟨r, rfl⟩ : ∃ r, q = r + 1 := ⟨q - 1, by omega⟩
      go_wp2
      go_roundw
      case rel => exact ⟨r, v / 10, _, by go_num, by go_num, inv_step HI.out d HD.out (by omega), HS.out, hbel.setCell (Nat.le_refl _) _⟩
      case measure => simp [intOf]; omega
end Go.Proofs.Qxb6602157a
