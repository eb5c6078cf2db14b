/-
  isDigits (32), canonicalDecimal (14), decimalGreater (15), predecessor (16): the contracts.
-/
import Derived.Test.Qxb6601715aSucc
import Derived.Test.Qxb6601715aPlain2
namespace Go.Proofs.Qxb6601715a
open Go.RowKit

/-- isDigits. -/
theorem digits_yes (s : ByteArray) (w : World) (hs : s.size ≤ 1048577) (hd : DigTo s.data.toList s.size) :
    Calls Try.prog 32 #[.string s] w fun e w' => e = .returned (.bool true) ∧ w' = w := by
  have HD : Hid (DigTo s.data.toList s.size) := hd
  clear hd
  go_enter Try.func32, Try.ntmps32
  go_wp2
  go_loop [3] (fun i => ∃ k : Nat, k ≤ s.size ∧ i = .int .i64 (k : Int)) (fun i => s.size - (intOf i).toNat)
  case atStart => exact ⟨0, Nat.zero_le _, rfl⟩
  case round =>
    obtain ⟨k, hk, rfl⟩ := hrel
    by_cases hlt : k < s.size
    · have hkd := HD.out k hlt
      rw [← byte_at s k hlt] at hkd
      obtain ⟨d1, d2⟩ := hkd
      have d3 : ¬ ((s[k].toNat : Int) < 48) := by omega
      have d4 : ¬ ((57 : Int) < (s[k].toNat : Int)) := by omega
      clear d1 d2
      go_wp2
      go_round
      case rel => exact ⟨k + 1, by omega, by go_num⟩
      case measure => simp [intOf]; omega
    · go_wp2
      go_ret
      exact ⟨rfl, rfl⟩

theorem digits_no (s : ByteArray) (w : World) (hs : s.size ≤ 1048577) (hd : ¬ DigTo s.data.toList s.size) :
    Calls Try.prog 32 #[.string s] w fun e w' => e = .returned (.bool false) ∧ w' = w := by
  have HD : Hid (¬ DigTo s.data.toList s.size) := hd
  clear hd
  go_enter Try.func32, Try.ntmps32
  go_wp2
  go_loop [3] (fun i => ∃ k : Nat, k ≤ s.size ∧ i = .int .i64 (k : Int) ∧ DigTo s.data.toList k) (fun i => s.size - (intOf i).toNat)
  case atStart => exact ⟨0, Nat.zero_le _, rfl, fun j h => by omega⟩
  case round =>
    obtain ⟨k, hk, rfl, hdk⟩ := hrel
    by_cases hlt : k < s.size
    · by_cases d3 : (s[k].toNat : Int) < 48
      · go_wp2
        go_ret
        exact ⟨rfl, rfl⟩
      · by_cases d4 : (57 : Int) < (s[k].toNat : Int)
        · go_wp2
          go_ret
          exact ⟨rfl, rfl⟩
        · go_wp2
          go_round
          case rel => exact ⟨k + 1, by omega, by go_num, digTo_step _ k hdk (by rw [← byte_at s k hlt]; exact ⟨by omega, by omega⟩)⟩
          case measure => simp [intOf]; omega
    · obtain rfl : k = s.size := by omega
      exact absurd hdk HD.out

/-- canonicalDecimal. -/
theorem canon_yes (s : ByteArray) (w : World) (hs : s.size ≤ 1048577) (hc : Canon s.data.toList) :
    Calls Try.prog 14 #[.string s] w fun e w' => e = .returned (.bool true) ∧ w' = w := by
  obtain ⟨h0, hd, hz⟩ := hc
  have hl : s.data.toList.length = s.size := by simp
  rw [hl] at h0 hd hz
  clear hl
  have h0' : ((s.size : Int) == 0) = false := by simpa using h0
  have HD : Hid (DigTo s.data.toList s.size) := hd
  clear hd
  by_cases h1 : s.size = 1
  · have h1' : ((s.size : Int) == 1) = true := by simp [h1]
    have hp : (1 : Nat) ≤ s.size := by omega
    clear h1 hz h0
    go_enter Try.func14, Try.ntmps14
    go_wp2_with (go_at_call 32; refine (digits_yes s _ hs HD.out).mono ?_; rintro e w1 ⟨rfl, rfl⟩)
    go_ret
    exact ⟨rfl, rfl⟩
  · have h1' : ((s.size : Int) == 1) = false := by simp; omega
    have hp : 0 < s.size := by omega
    have h2 : ((s[0].toNat : Int) != 48) = true := by
      rcases hz with hz | hz
      · exact absurd hz h1
      · rw [← byte_at s 0 hp] at hz
        simp only [bne_iff_ne, ne_eq]
        intro e
        exact hz (UInt8.toNat_inj.1 (by have : (48 : UInt8).toNat = 48 := rfl; omega))
    clear hz h0
    go_enter Try.func14, Try.ntmps14
    go_wp2_with (go_at_call 32; refine (digits_yes s _ hs HD.out).mono ?_; rintro e w1 ⟨rfl, rfl⟩)
    go_ret
    exact ⟨rfl, rfl⟩

theorem canon_no (s : ByteArray) (w : World) (hs : s.size ≤ 1048577) (hc : ¬ Canon s.data.toList) :
    Calls Try.prog 14 #[.string s] w fun e w' => e = .returned (.bool false) ∧ w' = w := by
  have hl : s.data.toList.length = s.size := by simp
  unfold Canon at hc
  rw [hl] at hc
  clear hl
  by_cases h0 : s.size = 0
  · clear hc
    have h0' : ((s.size : Int) == 0) = true := by simp [h0]
    clear h0
    go_enter Try.func14, Try.ntmps14
    go_wp2
    go_ret
    exact ⟨rfl, rfl⟩
  have h0' : ((s.size : Int) == 0) = false := by simpa using h0
  by_cases hd : DigTo s.data.toList s.size
  · have HD : Hid (DigTo s.data.toList s.size) := hd
    have h1 : s.size ≠ 1 := fun e => hc ⟨h0, hd, .inl e⟩
    have h1' : ((s.size : Int) == 1) = false := by simp; omega
    have hp : 0 < s.size := by omega
    have h2 : ((s[0].toNat : Int) != 48) = false := by
      by_cases e : s.data.toList.getD 0 0 = 48
      · rw [← byte_at s 0 hp] at e
        rw [e]; rfl
      · exact absurd ⟨h0, hd, .inr e⟩ hc
    clear hc hd
    go_enter Try.func14, Try.ntmps14
    go_wp2_with (go_at_call 32; refine (digits_yes s _ hs HD.out).mono ?_; rintro e w1 ⟨rfl, rfl⟩)
    go_ret
    exact ⟨rfl, rfl⟩
  · have HD : Hid (¬ DigTo s.data.toList s.size) := hd
    clear hc hd
    go_enter Try.func14, Try.ntmps14
    go_wp2_with (go_at_call 32; refine (digits_no s _ hs HD.out).mono ?_; rintro e w1 ⟨rfl, rfl⟩)
    go_ret
    exact ⟨rfl, rfl⟩

/-- decimalGreater: the first text is longer. -/
theorem greater_long (a b : ByteArray) (w : World) (hab : b.size < a.size) :
    Calls Try.prog 15 #[.string a, .string b] w fun e w' => e = .returned (.bool true) ∧ ∃ n, w' = w.drewN n := by
  have hne : ((a.size : Int) != (b.size : Int)) = true := by simp; omega
  have hlt : (b.size : Int) < (a.size : Int) := by omega
  go_enter Try.func15, Try.ntmps15
  go_wp2
  go_ret
  exact ⟨rfl, 0, rfl⟩

/-- decimalGreater: equally long, equal up to p, greater there. -/
theorem greater_at (a b : ByteArray) (w : World) (ha : a.size ≤ 1048577) (hab : a.size = b.size) (p : Nat) (hp : p < b.size)
    (heq : ∀ j, j < p → a.data.toList.getD j 0 = b.data.toList.getD j 0) (hgt : (b.data.toList.getD p 0).toNat < (a.data.toList.getD p 0).toNat) :
    Calls Try.prog 15 #[.string a, .string b] w fun e w' => e = .returned (.bool true) ∧ ∃ n, w' = w.drewN n := by
  have hne : ((a.size : Int) != (b.size : Int)) = false := by simp; omega
  have HE : Hid (∀ j, j < p → a.data.toList.getD j 0 = b.data.toList.getD j 0) := heq
  have HG : Hid ((b.data.toList.getD p 0).toNat < (a.data.toList.getD p 0).toNat) := hgt
  have h1 : a.size ≤ b.size := by omega
  have h2 : b.size ≤ a.size := by omega
  clear heq hgt hab
  go_enter Try.func15, Try.ntmps15
  go_wp2
  go_loopw [5] (fun i wr => ∃ k : Nat, k ≤ p ∧ i = .int .i64 (k : Int) ∧ ∃ n, wr = w.drewN n) (fun i _ => p - (intOf i).toNat)
  case atStart => exact ⟨0, Nat.zero_le _, rfl, 0, rfl⟩
  case round =>
    obtain ⟨k, hk, rfl, n, rfl⟩ := hrel
    have hka : k < a.size := by omega
    have hkb : k < b.size := by omega
    by_cases hlt : k < p
    · have e : ((a[k].toNat : Int) != (b[k].toNat : Int)) = false := by
        rw [byte_at a k hka, byte_at b k hkb, HE.out k hlt]; simp
      go_wp2
      go_quiet (fail)
      go_wp2
      go_roundw
      case rel => exact ⟨k + 1, by omega, by go_num, _, rfl⟩
      case measure => simp [intOf]; omega
    · obtain rfl : k = p := by omega
      have hg : ((b[k].toNat : Int) < (a[k].toNat : Int)) := by
        rw [byte_at a k hka, byte_at b k hkb]; have := HG.out; omega
      have e : ((a[k].toNat : Int) != (b[k].toNat : Int)) = true := by simp; omega
      go_wp2
      go_quiet (fail)
      go_wp2
      go_quiet (fail)
      go_wp2
      go_ret
      exact ⟨rfl, _, by rw [World.drewN_drewN, World.drewN_drewN]⟩

theorem byte_pred (b : UInt8) : ((b.toNat : Int) - 1) % 256 = ((b - 1).toNat : Int) := by
  have : (b - 1).toNat = (256 - 1 + b.toNat) % 256 := by simp [UInt8.toNat_sub]
  have := b.toNat_lt
  omega

/-- 'string(b[1:])'. -/
theorem Held.back1 {w : World} {b : Nat} {l : List UInt8} (h : Held w b l) (n cap : Nat) (hn : n = (l.drop 1).length) (z : ByteArray) (hz : z = ⟨(l.drop 1).toArray⟩) :
    (convert 35 9 (.slice (some ⟨b, 1, none⟩) n cap)).run Try.prog w = .ok (.string z) w := by
  subst hn hz
  refine run_convert_bytes_back w 35 9 5 ⟨b, 1, none⟩ cap (l.drop 1) Try.underlying35 Try.underlying5 Try.underlying9 fun j hj => ?_
  have hj' : 1 + j < l.length := by simp at hj; omega
  have := (h (1 + j) hj').1
  rw [show (⟨b, 1, none⟩ : Addr).add j = ⟨b, 1 + j, none⟩ from by unfold Addr.add; split <;> simp_all, this]
  simp only [List.getD_eq_getElem?_getD, List.getElem_drop, List.getElem?_eq_getElem hj', Option.getD_some]

/-- predecessor. -/
theorem pred_any (s : ByteArray) (w : World) (hs : s.size ≤ 1048577) :
    Calls Try.prog 16 #[.string s] w fun e w' => ∃ m, Stop0 s.data.toList m ∧ e = .returned (.string ⟨(prd s.data.toList m).toArray⟩) ∧ Below w.heap.size w w' := by
  have hl : s.data.toList.length = s.size := by simp
  have hconv := run_bytes_of_string (P := Try.prog) w 9 35 5 s Try.underlying9 Try.underlying35 Try.underlying5
  have hnew := held_new w s (grownCap w s.size 0 5) (bytesRow s (grownCap w s.size 0 5)).size (bytesRow_size _ _)
  have hcap := grownCap_ge w s.size 0 5
  generalize grownCap w s.size 0 5 = cap at hconv hnew hcap
  generalize bytesRow s cap = C at hconv hnew
  generalize hL : s.data.toList = l at *
  have HL : Hid (l.length = s.size) := hl
  clear hL hl
  go_enter Try.func16, Try.ntmps16
  go_wp2
  go_loopw [4] (fun i wr => ∃ m : Nat, m ≤ s.size ∧ ((m = 0 ∧ i = .int .i64 (-1)) ∨ (∃ p : Nat, m = p + 1 ∧ i = .int .i64 (p : Int))) ∧ Run0 l m ∧ Held wr w.heap.size (fil l m) ∧ Below w.heap.size w wr) (fun i _ => (intOf i + 1).toNat)
  case atStart =>
    refine ⟨s.size, Nat.le_refl _, ?_, by rw [← HL.out]; exact run0_end l, ?_, ((Below.refl _ _).alloc (Nat.le_refl _) _).drew⟩
    · by_cases h0 : s.size = 0
      · exact .inl ⟨h0, by rw [h0]; rfl⟩
      · exact .inr ⟨s.size - 1, by omega, by go_num⟩
    · rw [← HL.out, fil_full]; exact hnew
  case round =>
    clear hconv hnew
    obtain ⟨m, hm, hmi, hrun, hheld, hbel⟩ := hrel
    rcases hmi with ⟨rfl, rfl⟩ | ⟨p, rfl, rfl⟩
    · clear hheld
      go_wp2
      go_ret
      exact ⟨0, ⟨Nat.zero_le _, hrun, fun p h => by omega⟩, rfl, hbel⟩
    · have hpl : p < l.length := by have := HL.out; omega
      have hcl := fil_len l (p + 1) (by omega)
      obtain ⟨b, hb⟩ : ∃ b : UInt8, b = l.getD p 0 := ⟨_, rfl⟩
      have hcf := hheld p (by omega)
      rw [fil_get l p hpl, ← hb] at hcf
      obtain ⟨hc, hf⟩ := hcf
      have hset := hheld.set p (by omega) (b - 1) _ (byte_pred b)
      have hz0 := hheld.set p (by omega) 57 57 rfl
      rw [fil_step l p hpl] at hz0
      rw [fil_set l p _ hpl, hb, ← low] at hset
      rw [← hb] at hset
      have HB : Hid (b = l.getD p 0) := hb
      have HN : Hid (p < l.length) := hpl
      clear hb hheld hcl hpl
      by_cases h48 : ((b.toNat : Int) == 48) = true
      · clear hset
        go_wp2
        go_roundw
        case rel =>
          refine ⟨p, by omega, ?_, run0_step l p hrun (by rw [← HB.out]; exact byte_eq' (n := 48) (by omega) h48), hz0, hbel.setCell (Nat.le_refl _) _⟩
          by_cases h0 : p = 0
          · exact .inl ⟨h0, by rw [h0]; rfl⟩
          · exact .inr ⟨p - 1, by omega, by go_num⟩
        case measure => simp [intOf]
      · have h48' : ((b.toNat : Int) == 48) = false := by simpa using h48
        have hlow := low_len l p HN.out
        have hst : Stop0 l (p + 1) := ⟨HN.out, hrun, fun q hq => by
          obtain rfl : p = q := by omega
          rw [← HB.out]; exact byte_ne' (n := 48) (by omega) h48'⟩
        have hbel' := hbel.setCell (p := ⟨w.heap.size, p, none⟩) (Nat.le_refl _) (.int .u8 (((b.toNat : Int) - 1) % 256))
        have hback := hset.back s.size cap (by rw [hlow, HL.out]) _ rfl
        by_cases h1 : 1 < s.size
        · obtain ⟨y, hy⟩ : ∃ y, y = (low l p).getD 0 0 := ⟨_, rfl⟩
          have hc0 := (hset 0 (by have := HL.out; omega)).1
          rw [← hy] at hc0
          have hback1 := hset.back1 (s.size - 1) (cap - 1) (by rw [List.length_drop, hlow, HL.out]) _ rfl
          generalize hz : ByteArray.mk (low l p).toArray = z at hback
          generalize hz1 : ByteArray.mk ((low l p).drop 1).toArray = z1 at hback1
          have HZ : Hid (ByteArray.mk (low l p).toArray = z) := hz
          have HZ1 : Hid (ByteArray.mk ((low l p).drop 1).toArray = z1) := hz1
          have HY : Hid (y = (low l p).getD 0 0) := hy
          have HST : Hid (Stop0 l (p + 1)) := hst
          clear hz hz1 hy hst hlow hset h48 hz0 hbel hrun
          by_cases hy48 : ((y.toNat : Int) == 48) = true
          · clear hback
            go_wp2
            go_ret
            refine ⟨p + 1, HST.out, ?_, hbel'⟩
            rw [prd, if_pos ⟨by rw [HL.out]; exact h1, by rw [← HY.out]; exact byte_eq' (n := 48) (by omega) hy48⟩, HZ1.out]
            rfl
          · have hy48' : ((y.toNat : Int) == 48) = false := by simpa using hy48
            clear hy48 hback1
            go_wp2
            go_ret
            refine ⟨p + 1, HST.out, ?_, hbel'⟩
            rw [prd, if_neg (fun h => byte_ne' (n := 48) (by omega) hy48' (by rw [HY.out]; exact h.2)), HZ.out]
            rfl
        · generalize hz : ByteArray.mk (low l p).toArray = z at hback
          have HZ : Hid (ByteArray.mk (low l p).toArray = z) := hz
          have HST : Hid (Stop0 l (p + 1)) := hst
          clear hz hst hlow hset h48 hz0 hbel hrun
          go_wp2
          go_ret
          refine ⟨p + 1, HST.out, ?_, hbel'⟩
          rw [prd, if_neg (fun h => h1 (by rw [← HL.out]; exact h.1)), HZ.out]
          rfl
end Go.Proofs.Qxb6601715a
