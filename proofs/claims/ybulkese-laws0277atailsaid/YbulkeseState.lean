/-
  WHAT A FINGERPRINTER IS IN MEMORY: its block (two bases, the slice of the powers), the row of the powers; and the frame of a call that may turn these two alone.
-/
import Derived.Test.YbulkeseSteps
import Derived.Deep.AppendLies
namespace Go.Proofs.Ybulkese
open Go.RowKit

/-- A row of fingerprints, cell by cell. -/
def fpCells : List (Nat × Nat) → List Value
  | [] => []
  | p :: l => .int .u64 (p.1 : Int) :: .int .u64 (p.2 : Int) :: fpCells l

theorem fpCells_append (l k : List (Nat × Nat)) : fpCells (l ++ k) = fpCells l ++ fpCells k := by
  induction l with
  | nil => rfl
  | cons p l ih => simp [fpCells, ih]
theorem fpCells_length (l : List (Nat × Nat)) : (fpCells l).length = l.length * 2 := by
  induction l with
  | nil => rfl
  | cons p l ih => simp [fpCells, ih]; omega
theorem fpCells_get (l : List (Nat × Nat)) : ∀ (k : Nat), k < l.length →
    (fpCells l)[k * 2]? = some (.int .u64 ((l.getD k (0, 0)).1 : Int)) ∧ (fpCells l)[k * 2 + 1]? = some (.int .u64 ((l.getD k (0, 0)).2 : Int)) := by
  induction l with
  | nil => intro k h; simp at h
  | cons p l ih =>
    intro k h
    cases k with
    | zero => simp [fpCells]
    | succ k =>
      have := ih k (by simpa using h)
      have e1 : (k + 1) * 2 = k * 2 + 1 + 1 := by omega
      have e2 : (k + 1) * 2 + 1 = k * 2 + 1 + 1 + 1 := by omega
      rw [e1]
      simpa [fpCells] using this

/-- The powers up to the n-th. -/
def powL (a b n : Nat) : List (Nat × Nat) := (List.range (n + 1)).map fun k => (pw a k, pw b k)
theorem powL_length (a b n : Nat) : (powL a b n).length = n + 1 := by simp [powL]
theorem powL_succ (a b n : Nat) : powL a b (n + 1) = powL a b n ++ [(pw a (n + 1), pw b (n + 1))] := by
  unfold powL
  rw [List.range_succ, List.map_append]
  rfl
theorem powL_get (a b n k : Nat) (h : k ≤ n) : (powL a b n).getD k (0, 0) = (pw a k, pw b k) := by
  have hk : k < n + 1 := by omega
  simp [powL, List.getD_eq_getElem?_getD, hk]
theorem powL_zero (a b : Nat) : fpCells (powL a b 0) = [.int .u64 1, .int .u64 1] := rfl

structure Fpr (w : World) (B g cap a b n : Nat) : Prop where
  obj : w.heap[B]? = some (.cells #[.int .u64 a, .int .u64 b, .slice (some ⟨g, 0, none⟩) (n + 1) cap] 54 (0, 0))
  own : w.ownsRow 0 36 2 (.slice (some ⟨g, 0, none⟩) (n + 1) cap) (n + 1) (fpCells (powL a b n))

/-- A call that may have turned blocks B and g, and has made new ones. -/
structure But (B g : Nat) (w w' : World) : Prop where
  os : w'.os = w.os
  tape : w'.tape = w.tape
  output : w'.output = w.output
  size : w.heap.size ≤ w'.heap.size
  block : ∀ k, k < w.heap.size → k ≠ B → k ≠ g → w'.heap[k]? = w.heap[k]?

section
variable {w w' w1 w2 : World} {B g g1 cap a b n : Nat}

theorem lt_of_heap {k : Nat} {o : Obj} (h : w.heap[k]? = some o) : k < w.heap.size := (Array.getElem?_eq_some_iff.1 h).1

theorem Fpr.ltB (h : Fpr w B g cap a b n) : B < w.heap.size := lt_of_heap h.obj
theorem Fpr.row (h : Fpr w B g cap a b n) : ∃ cur, w.heap[g]? = some (.cells cur 36 (0, 0)) := by
  rcases h.own.2 with ⟨h1, _⟩ | ⟨g', cap', cur, hv, _, hg, _⟩
  · cases h1
  · simp only [Value.slice.injEq, Option.some.injEq, Addr.mk.injEq] at hv
    obtain ⟨⟨rfl, _⟩, _⟩ := hv
    exact ⟨cur, hg⟩
theorem Fpr.ltg (h : Fpr w B g cap a b n) : g < w.heap.size := by obtain ⟨_, h⟩ := h.row; exact lt_of_heap h
theorem Fpr.ne (h : Fpr w B g cap a b n) : B ≠ g := fun e => by
  obtain ⟨cur, hg⟩ := h.row
  have := h.obj
  rw [e, hg] at this
  simp at this
theorem Fpr.caps (h : Fpr w B g cap a b n) : n + 1 ≤ cap ∧ cap ≤ maxLen := by
  rcases h.own.2 with ⟨h1, _⟩ | ⟨g', cap', cur, hv, _, _, h1, h2, _⟩
  · cases h1
  · simp only [Value.slice.injEq] at hv
    obtain ⟨_, _, rfl⟩ := hv
    exact ⟨h1, h2⟩
theorem Fpr.cellA (h : Fpr w B g cap a b n) {k : Nat} (hk : k ≤ n) : w.cell? ⟨g, k * 2, none⟩ = some (.int .u64 (pw a k : Nat)) := by
  have h1 := (fpCells_get (powL a b n) k (by rw [powL_length]; omega)).1
  rw [powL_get a b n k hk] at h1
  have := h.own.cells (g := g) rfl _ _ h1
  rwa [show (⟨g, 0, none⟩ : Addr).add (k * 2) = ⟨g, k * 2, none⟩ by unfold Addr.add; split <;> simp_all] at this
theorem Fpr.cellB (h : Fpr w B g cap a b n) {k : Nat} (hk : k ≤ n) : w.cell? ⟨g, k * 2 + 1, none⟩ = some (.int .u64 (pw b k : Nat)) := by
  have h1 := (fpCells_get (powL a b n) k (by rw [powL_length]; omega)).2
  rw [powL_get a b n k hk] at h1
  have := h.own.cells (g := g) rfl _ _ h1
  rwa [show (⟨g, 0, none⟩ : Addr).add (k * 2 + 1) = ⟨g, k * 2 + 1, none⟩ by unfold Addr.add; split <;> simp_all] at this
theorem Fpr.c0 (h : Fpr w B g cap a b n) : w.cell? ⟨B, 0, none⟩ = some (.int .u64 a) := cell_of_block h.obj 0
theorem Fpr.c1 (h : Fpr w B g cap a b n) : w.cell? ⟨B, 1, none⟩ = some (.int .u64 b) := cell_of_block h.obj 1
theorem Fpr.c2 (h : Fpr w B g cap a b n) : w.cell? ⟨B, 2, none⟩ = some (.slice (some ⟨g, 0, none⟩) (n + 1) cap) := cell_of_block h.obj 2
theorem frozen_of_block {k j : Nat} {cs : Array Value} {t : TypeId} (h : w.heap[k]? = some (.cells cs t (0, 0))) : w.frozen? ⟨k, j, none⟩ = false := by
  simp [World.frozen?, h]
theorem Fpr.f2 (h : Fpr w B g cap a b n) : w.frozen? ⟨B, 2, none⟩ = false := frozen_of_block h.obj

/-- The same two blocks: still a fingerprinter. -/
theorem Fpr.same (h : Fpr w B g cap a b n) (h1 : w'.heap[B]? = w.heap[B]?) (h2 : w'.heap[g]? = w.heap[g]?) : Fpr w' B g cap a b n := by
  refine ⟨by rw [h1]; exact h.obj, h.own.1, ?_⟩
  rcases h.own.2 with h3 | ⟨g', cap', cur, hv, h4, hg, r⟩
  · exact .inl h3
  · refine .inr ⟨g', cap', cur, hv, h4, ?_, r⟩
    simp only [Value.slice.injEq, Option.some.injEq, Addr.mk.injEq] at hv
    rw [← hv.1.1] at hg ⊢
    rw [h2]
    exact hg
theorem Fpr.below (h : Fpr w B g cap a b n) {K : Nat} (hb : Below K w w') (hB : B < K) (hg : g < K) : Fpr w' B g cap a b n := h.same (hb.block _ hB) (hb.block _ hg)
theorem Fpr.below' (h : Fpr w B g cap a b n) (hb : Below w.heap.size w w') : Fpr w' B g cap a b n := h.below hb h.ltB h.ltg

theorem But.refl (B g : Nat) (w : World) : But B g w w := ⟨rfl, rfl, rfl, Nat.le_refl _, fun _ _ _ _ => rfl⟩
theorem But.of_below (h : Below w.heap.size w w') : But B g w w' := ⟨h.os, h.tape, h.output, h.size, fun k hk _ _ => h.block k hk⟩
theorem But.trans (h : But B g w w1) (k : But B g1 w1 w2) (hg : g1 = g ∨ w.heap.size ≤ g1) : But B g w w2 :=
  ⟨k.os.trans h.os, k.tape.trans h.tape, k.output.trans h.output, Nat.le_trans h.size k.size, fun i hi h1 h2 =>
    (k.block i (Nat.lt_of_lt_of_le hi h.size) h1 (by rcases hg with rfl | hg <;> omega)).trans (h.block i hi h1 h2)⟩
theorem But.then_below (h : But B g w w1) (k : Below w1.heap.size w1 w2) : But B g w w2 := h.trans (But.of_below k) (.inl rfl)
theorem But.of_then (h : Below w.heap.size w w1) (k : But B g w1 w2) : But B g w w2 := (But.of_below h).trans k (.inl rfl)
theorem But.drew (h : But B g w w1) : But B g w w1.drew := ⟨h.os, h.tape, h.output, h.size, h.block⟩
theorem But.alloc (h : But B g w w1) (o : Obj) : But B g w (w1.alloc o) := h.then_below ((Below.refl _ _).alloc (Nat.le_refl _) _)
theorem But.setCell (h : But B g w w1) {p : Addr} (hp : p.block = B ∨ p.block = g ∨ w.heap.size ≤ p.block) (u : Value) : But B g w (w1.setCell p u) :=
  ⟨h.os, h.tape, h.output, by simpa [World.setCell] using h.size, fun k hk h1 h2 => (Below.heap_setCell _ _ _ _ (by omega)).trans (h.block k hk h1 h2)⟩
/-- What lies below both blocks stands. -/
theorem But.below (h : But B g w w') {K : Nat} (hK : K ≤ w.heap.size) (hB : K ≤ B) (hg : K ≤ g) : Below K w w' :=
  ⟨h.os, h.tape, h.output, h.size, fun k hk => h.block k (by omega) (by omega) (by omega)⟩
theorem But.cell (h : But B g w w') {p : Addr} (hp : p.block < w.heap.size) (hB : p.block ≠ B) (hg : p.block ≠ g) : w'.cell? p = w.cell? p := World.cell?_of_block (w := w) (h.block p.block hp hB hg)

/-- ONE ROUND OF power: the row has grown by the next power, and its new slice is stored. -/
theorem fpr_next {W : World} {g2 cap2 : Nat} (hF : Fpr w B g cap a b n) (hW : Below w.heap.size w W)
    (hown : w2.ownsRow 0 36 2 (.slice (some ⟨g2, 0, none⟩) (n + 1 + 1) cap2) (n + 1 + 1) (fpCells (powL a b n) ++ [.int .u64 (mm (pw a n) a : Nat), .int .u64 (mm (pw b n) b : Nat)]))
    (hgrow : W.grownBy w2 (some g)) (hat : some g = some g2 ∨ g2 = W.heap.size) :
    Fpr (w2.setCell ⟨B, 2, none⟩ (.slice (some ⟨g2, 0, none⟩) (n + 1 + 1) cap2)) B g2 cap2 a b (n + 1) ∧
    But B g w (w2.setCell ⟨B, 2, none⟩ (.slice (some ⟨g2, 0, none⟩) (n + 1 + 1) cap2)) ∧ (g2 = g ∨ w.heap.size ≤ g2) := by
  have hne := hF.ne
  have hBlt := hF.ltB
  have hsz := hW.size
  have hg2 : g2 = g ∨ w.heap.size ≤ g2 := by
    rcases hat with h | h
    · left; simpa using h.symm
    · right; omega
  have hBg2 : B ≠ g2 := by rcases hg2 with rfl | h <;> omega
  have hobj : w2.heap[B]? = some (.cells #[.int .u64 a, .int .u64 b, .slice (some ⟨g, 0, none⟩) (n + 1) cap] 54 (0, 0)) := by
    rw [hgrow.block B (by omega) (by simpa using hne), hW.block B hBlt, hF.obj]
  refine ⟨⟨?_, ?_⟩, ?_, hg2⟩
  · rw [heap_setCell_same w2 B 2 _ 54 _ hobj]
    simp
  · have e : fpCells (powL a b n) ++ [.int .u64 (mm (pw a n) a : Nat), .int .u64 (mm (pw b n) b : Nat)] = fpCells (powL a b (n + 1)) := by
      rw [powL_succ, fpCells_append]; rfl
    rw [← e]
    refine ⟨hown.1, ?_⟩
    rcases hown.2 with h | ⟨g', cap', cur, hv, h1, hh, r⟩
    · cases h.1
    · refine .inr ⟨g', cap', cur, hv, h1, ?_, r⟩
      rw [heap_setCell_other _ _ _ _ (by simp only [Value.slice.injEq, Option.some.injEq, Addr.mk.injEq] at hv; rw [← hv.1.1]; exact Ne.symm hBg2)]
      exact hh
  · have h0 : But B g w W := But.of_below hW
    have h1 : But B g W w2 := ⟨hgrow.os, hgrow.tape, hgrow.output, hgrow.size, fun k hk h1 h2 => hgrow.block k hk (by simpa using h2)⟩
    exact (h0.trans h1 (.inl rfl)).setCell (.inl rfl) _
end
end Go.Proofs.Ybulkese
