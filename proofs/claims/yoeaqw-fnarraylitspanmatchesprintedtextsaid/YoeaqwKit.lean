/-
  What the walks of this seat share: a slice of strings as a function of its index; sums of lengths.
-/
import Derived.Test.YoeaqwRows
import Derived.WalkKit
import Derived.WalkSpells
import Derived.WalkLawsBesides
namespace Go.Proofs.Yoeaqw
open Go.RowKit

/-- The lengths of the first k names, added up. -/
def tot (ns : Nat → ByteArray) : Nat → Nat
  | 0 => 0
  | k + 1 => tot ns k + (ns k).size

theorem tot_succ (ns : Nat → ByteArray) (k : Nat) : tot ns (k + 1) = tot ns k + (ns k).size := rfl

theorem tot_mono (ns : Nat → ByteArray) {i k : Nat} (h : i ≤ k) : tot ns i ≤ tot ns k := by
  induction k with
  | zero => have : i = 0 := by omega
            subst this; exact Nat.le_refl _
  | succ k ih =>
    by_cases e : i = k + 1
    · subst e; exact Nat.le_refl _
    · have := ih (by omega)
      rw [tot_succ]; omega

/-- A slice of n strings at 'ao' in the world w: none; or cell j behind the address holds the string 'ns j'. -/
def SS (w : World) (ao : Option Addr) (n : Nat) (ns : Nat → ByteArray) : Prop :=
  n = 0 ∨ ∃ b off, ao = some ⟨b, off, none⟩ ∧ b < w.heap.size ∧ ∀ j, j < n → w.cell? ⟨b, off + j, none⟩ = some (.string (ns j))

theorem SS.below {w w' : World} {ao : Option Addr} {n : Nat} {ns : Nat → ByteArray} (h : SS w ao n ns) (hb : Below w.heap.size w w') : SS w' ao n ns := by
  rcases h with h | ⟨b, off, rfl, hbl, hc⟩
  · exact .inl h
  · exact .inr ⟨b, off, rfl, Nat.lt_of_lt_of_le hbl hb.size, fun j hj => (hb.cell (p := ⟨b, off + j, none⟩) hbl).trans (hc j hj)⟩

/-- It answers a bool (behind a name: the walk's simp does not open it). -/
def RetBool (e : Ending) : Prop := ∃ r : Bool, e = .returned (.bool r)

theorem ret_int {k : IntKind} {a b : Int} (h : a = b) : Ending.returned (.int k a) = .returned (.int k b) := by rw [h]

end Go.Proofs.Yoeaqw
