/-
  A block of the call's own that holds bytes: what a store does to it; 'string(b[o:])' in its words.
-/
import Derived.Test.Qxb6602157aStat
import Derived.Laws.IdiomStrings
namespace Go.Proofs.Qxb6602157a
open Go.RowKit

/-- Block b of the world holds the bytes l, none of them frozen. -/
def Held (w : World) (b : Nat) (l : List UInt8) : Prop :=
  ∀ j, j < l.length → w.cell? ⟨b, j, none⟩ = some (.int .u8 (at_ l j : Int)) ∧ w.frozen? ⟨b, j, none⟩ = false

theorem at_set_same (l : List UInt8) (p : Nat) (hp : p < l.length) (v : UInt8) : at_ (l.set p v) p = v.toNat := by
  simp [at_, List.getD_eq_getElem?_getD, hp]
theorem at_set_other (l : List UInt8) (p j : Nat) (h : p ≠ j) (v : UInt8) : at_ (l.set p v) j = at_ l j := by
  simp [at_, List.getD_eq_getElem?_getD, h]

theorem Held.set {w : World} {b : Nat} {l : List UInt8} (h : Held w b l) (p : Nat) (hp : p < l.length) (v : UInt8) (x : Int) (hx : x = (v.toNat : Int)) :
    Held (w.setCell ⟨b, p, none⟩ (.int .u8 x)) b (l.set p v) := by
  subst hx
  intro j hj
  rw [List.length_set] at hj
  obtain ⟨h1, h2⟩ := h j hj
  refine ⟨?_, by rw [World.frozen?_setCell]; exact h2⟩
  by_cases e : p = j
  · subst e
    rw [World.cell?_setCell_same _ _ _ h1, at_set_same l p hp v]
  · rw [World.cell?_setCell_other _ _ _ _ (fun he => e (congrArg Addr.off he)), h1, at_set_other l p j e v]

/-- 'string(b[o:])'. -/
theorem Held.back {w : World} {b : Nat} {l : List UInt8} (h : Held w b l) (o n cap : Nat) (hn : n = (l.drop o).length) (z : ByteArray) (hz : z = ⟨(l.drop o).toArray⟩) :
    (convert 28 9 (.slice (some ⟨b, o, none⟩) n cap)).run Try.prog w = .ok (.string z) w := by
  subst hn hz
  refine run_convert_bytes_back w 28 9 5 ⟨b, o, none⟩ cap (l.drop o) Try.underlying28 Try.underlying5 Try.underlying9 fun j hj => ?_
  have hj' : o + j < l.length := by simp at hj; omega
  have := (h (o + j) hj').1
  rw [show (⟨b, o, none⟩ : Addr).add j = ⟨b, o + j, none⟩ from by unfold Addr.add; split <;> simp_all, this]
  simp only [at_, List.getD_eq_getElem?_getD, List.getElem_drop, List.getElem?_eq_getElem hj', Option.getD_some]

theorem held_zeros (w : World) (n : Nat) (t : TypeId) (C : Array Value) (hC : ∀ j, j < n → C[j]? = some (.int .u8 0)) :
    Held (w.alloc (.cells C t)) w.heap.size (List.replicate n 0) := by
  intro j hj
  rw [List.length_replicate] at hj
  rw [World.cell?_alloc_mark, World.frozen?_alloc_mark, hC j hj]
  exact ⟨by simp [at_, List.getD_eq_getElem?_getD, hj], by simp⟩

theorem at_drop (l : List UInt8) (o j : Nat) : at_ (l.drop o) j = at_ l (o + j) := by
  simp [at_, List.getD_eq_getElem?_getD]
end Go.Proofs.Qxb6602157a
