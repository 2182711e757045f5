/-
  THE HITS IN MEMORY: a hit is two cells (its path, a slice of one cell that holds a string; its value, an int64 in an interface value); an explanation is five.
-/
import Derived.Test.YbulkfeaRows
import Derived.WalkKit
import Derived.WalkSpells
import Derived.WalkLawsBesides
import Derived.Below
import Derived.Laws.OwnMore
import Derived.Deep.AppendLies
import Derived.Deep.Onto
import Derived.Deep.QuietTactic
import Derived.BigQuiet
namespace Go.Proofs.Ybulkfea
open Go.RowKit

/-- A hit as the walk knows it: the block of its path, the path's string, its value. -/
structure H1 where
  q : Nat
  s : ByteArray
  v : Int

def hitCells : List H1 → List Value
  | [] => []
  | h :: r => .slice (some ⟨h.q, 0, none⟩) 1 1 :: .iface 2 (.int .i64 h.v) :: hitCells r

theorem hitCells_append : ∀ a b : List H1, hitCells (a ++ b) = hitCells a ++ hitCells b
  | [], _ => rfl
  | h :: r, b => by simp [hitCells, hitCells_append r b]

theorem hitCells_length : ∀ a : List H1, (hitCells a).length = a.length * 2
  | [] => rfl
  | h :: r => by simp [hitCells, hitCells_length r]; omega

theorem hitCells_at : ∀ (a : List H1) (i : Nat) (h : H1), a[i]? = some h → (hitCells a)[i * 2]? = some (.slice (some ⟨h.q, 0, none⟩) 1 1) ∧ (hitCells a)[i * 2 + 1]? = some (.iface 2 (.int .i64 h.v))
  | [], i, h, e => by simp at e
  | x :: r, 0, h, e => by simp at e; subst e; simp [hitCells]
  | x :: r, i + 1, h, e => by
    have := hitCells_at r i h (by simpa using e)
    rw [show (i + 1) * 2 = i * 2 + 1 + 1 by omega, show i * 2 + 1 + 1 + 1 = (i * 2 + 1) + 1 + 1 by omega]
    simpa [hitCells] using this

/-- Each path lies where it is said to lie. -/
def Paths (w : World) (hs : List H1) : Prop := ∀ h ∈ hs, w.heap[h.q]? = some (.cells #[.iface 9 (.string h.s)] 20 (0, 0))

theorem heap_lt {w : World} {k : Nat} {o : Obj} (h : w.heap[k]? = some o) : k < w.heap.size := by
  rcases Nat.lt_or_ge k w.heap.size with h1 | h1
  · exact h1
  · rw [Array.getElem?_eq_none h1] at h; cases h

theorem alloc_old (w : World) (o : Obj) (k : Nat) (h : k < w.heap.size) : (w.alloc o).heap[k]? = w.heap[k]? := (World.grownBy_alloc w o none).block k h (by simp)

end Go.Proofs.Ybulkfea
