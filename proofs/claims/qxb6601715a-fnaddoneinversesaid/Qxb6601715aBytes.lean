/-
  A block of the call's own that holds bytes: what a store does to it; '[]byte(s)' and 'string(b)' in its words.
-/
import Derived.Test.Qxb6601715aRows
import Derived.Test.Qxb6601715aPlain
import Derived.WalkKit
import Derived.WalkSpells
import Derived.WalkLawsBesides
import Derived.Laws.IdiomStrings
namespace Go.Proofs.Qxb6601715a
open Go.RowKit

/-- Block b of the world holds the bytes l, none of them frozen. -/
def Held (w : World) (b : Nat) (l : List UInt8) : Prop :=
  ∀ j, j < l.length → w.cell? ⟨b, j, none⟩ = some (.int .u8 ((l.getD j 0).toNat : Int)) ∧ w.frozen? ⟨b, j, none⟩ = false

theorem Held.set {w : World} {b : Nat} {l : List UInt8} (h : Held w b l) (p : Nat) (hp : p < l.length) (v : UInt8) (x : Int) (hx : x = (v.toNat : Int)) :
    Held (w.setCell ⟨b, p, none⟩ (.int .u8 x)) b (l.set p v) := by
  subst hx
  intro j hj
  rw [List.length_set] at hj
  obtain ⟨h1, h2⟩ := h j hj
  refine ⟨?_, by rw [World.frozen?_setCell]; exact h2⟩
  by_cases e : p = j
  · subst e
    rw [World.cell?_setCell_same _ _ _ h1]
    simp [List.getD_eq_getElem?_getD, hp]
  · rw [World.cell?_setCell_other _ _ _ _ (fun he => e (congrArg Addr.off he)), h1]
    simp [List.getD_eq_getElem?_getD, e]

/-- 'string(b)'. -/
theorem Held.back {w : World} {b : Nat} {l : List UInt8} (h : Held w b l) (n cap : Nat) (hn : n = l.length) (z : ByteArray) (hz : z = ⟨l.toArray⟩) :
    (convert 35 9 (.slice (some ⟨b, 0, none⟩) n cap)).run Try.prog w = .ok (.string z) w := by
  subst hn hz
  refine run_convert_bytes_back w 35 9 5 ⟨b, 0, none⟩ cap l Try.underlying35 Try.underlying5 Try.underlying9 fun j hj => ?_
  have := (h j hj).1
  rw [show (⟨b, 0, none⟩ : Addr).add j = ⟨b, j, none⟩ from by unfold Addr.add; split <;> simp_all, this]
  simp [List.getD_eq_getElem?_getD, hj]

/-- '[]byte(s)': the new block holds s. -/
theorem held_new (w : World) (s : ByteArray) (cap : Nat) (n : Nat) (hn : s.size ≤ n) :
    Held (w.alloc (.cells (bytesRow s cap) 5 (n, n + 1))) w.heap.size s.data.toList := by
  intro j hj
  have hj' : j < s.data.size := by simpa using hj
  have hj2 : j < s.size := hj'
  rw [World.cell?_alloc_mark, World.frozen?_alloc_mark, bytesRow_at s cap j hj']
  refine ⟨by rw [List.getD_eq_getElem?_getD, Array.getElem?_toList, Array.getElem?_eq_getElem hj']; rfl, by simp; omega⟩

theorem bytesRow_size (s : ByteArray) (cap : Nat) : s.size ≤ (bytesRow s cap).size := by
  have : s.data.size = s.size := rfl
  simp [bytesRow]

theorem byte_succ (b : UInt8) : ((b.toNat : Int) + 1) % 256 = ((b + 1).toNat : Int) := by
  have : (b + 1).toNat = (b.toNat + 1) % 256 := by simp [UInt8.toNat_add]
  omega
theorem byte_ne {b : UInt8} {n : Nat} (hn : n < 256) (h : ((b.toNat : Int) != (n : Int)) = true) : b ≠ UInt8.ofNat n := by
  intro e; subst e
  simp at h
  omega
theorem byte_eq {b : UInt8} {n : Nat} (hn : n < 256) (h : ((b.toNat : Int) != (n : Int)) = false) : b = UInt8.ofNat n := by
  apply UInt8.toNat_inj.1
  simp at h
  simp; omega
end Go.Proofs.Qxb6601715a
