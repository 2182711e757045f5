/-
  WHAT zzs0277abuild LEAVES IN MEMORY.
-/
import Derived.Test.YbulkeseBuildState
namespace Go.Proofs.Ybulkese
open Go.RowKit

structure Built (w wf : World) (l : List Nat) (S : List (Nat × Nat)) (L n TX B g tp gs ga gp gf gr A Z : Nat) : Prop where
  fpr : Fpr wf B g 1 A Z 0
  run : Run wf TX B tp gs ga gp n L (L + 1) l (flTo L S l n) (spF L S) (spT L S) (spA L S l) A Z
  ap : Apart wf B g TX tp gs ga gp
  flat : ∀ x, x < spA L S l n → wf.cell? ⟨gf, x, none⟩ = some (.int .i32 ((flTo L S l n).getD x 0 : Nat))
  runA : ∀ k, k ≤ spA L S l n → wf.cell? ⟨gr, k * 2, none⟩ = some (.int .u64 (pf A (flTo L S l n) k : Nat))
  runB : ∀ k, k ≤ spA L S l n → wf.cell? ⟨gr, k * 2 + 1, none⟩ = some (.int .u64 (pf Z (flTo L S l n) k : Nat))
  far : gf < wf.heap.size ∧ gr < wf.heap.size ∧ gf ≠ B ∧ gf ≠ g ∧ gr ≠ B ∧ gr ≠ g
  low : w.heap.size ≤ B ∧ w.heap.size ≤ g
  bel : Below w.heap.size w wf

theorem five_stored {w : World} {R : Nat} {c0 c1 c2 c3 c4 : Value} {t : TypeId} (h : w.heap[R]? = some (.cells #[c0, c1, c2, c3, c4] t (0, 0))) (v0 v1 v2 v3 v4 : Value) :
    (((((w.setCell ⟨R, 0, none⟩ v0).setCell ⟨R, 1, none⟩ v1).setCell ⟨R, 2, none⟩ v2).setCell ⟨R, 3, none⟩ v3).setCell ⟨R, 4, none⟩ v4).heap[R]? = some (.cells #[v0, v1, v2, v3, v4] t (0, 0)) := by
  have h0 := heap_setCell_same w R 0 _ t v0 h
  have h1 := heap_setCell_same _ R 1 _ t v1 h0
  have h2 := heap_setCell_same _ R 2 _ t v2 h1
  have h3 := heap_setCell_same _ R 3 _ t v3 h2
  have h4 := heap_setCell_same _ R 4 _ t v4 h3
  rw [h4]; simp
theorem five_other {w : World} {R k : Nat} (hk : k ≠ R) (v0 v1 v2 v3 v4 : Value) :
    (((((w.setCell ⟨R, 0, none⟩ v0).setCell ⟨R, 1, none⟩ v1).setCell ⟨R, 2, none⟩ v2).setCell ⟨R, 3, none⟩ v3).setCell ⟨R, 4, none⟩ v4).heap[k]? = w.heap[k]? := by
  rw [heap_setCell_other _ _ _ _ (by exact hk), heap_setCell_other _ _ _ _ (by exact hk), heap_setCell_other _ _ _ _ (by exact hk), heap_setCell_other _ _ _ _ (by exact hk), heap_setCell_other _ _ _ _ (by exact hk)]

set_option maxHeartbeats 1000000 in
theorem built_end {w wb wr : World} {l : List Nat} {S : List (Nat × Nat)} {L n tp gs ga gp gf cf gr cr A Z : Nat} (v1 v2 v3 v4 v5 : Value)
    (hres : wr.heap[w.heap.size]? = some (.cells #[v1, v2, v3, v4, v5] 31 (0, 0)))
    (hst : St wb gs n gs ga gp (spCells L S n) (atCells L S l n) (preCells A Z L S l n) (idCells (flTo L S l n)) (runCells A Z (flTo L S l n)) n n n gf (spA L S l n) cf gr (spA L S l n + 1) cr wr)
    (htp : wb.rowIs tp 36 ((L + 1) * 2) (fpF (fun j => (pf A l j, pf Z l j)))) (h1 : tp < gs) (h2 : w.heap.size < tp) (hb : Below w.heap.size w wb) (x0 x1 x2 x3 x4 tx1 : Value) :
    let W := ((((((((wr.setCell ⟨w.heap.size, 0, none⟩ x0).setCell ⟨w.heap.size, 1, none⟩ x1).setCell ⟨w.heap.size, 2, none⟩ x2).setCell ⟨w.heap.size, 3, none⟩ x3).setCell ⟨w.heap.size, 4, none⟩ x4).alloc (.cells #[.int .u64 1, .int .u64 1] 36)).alloc (.cells #[.int .u64 A, .int .u64 Z, .slice (some ⟨wr.heap.size, 0, none⟩) 1 1] 54)).alloc
      (.cells #[.pointer (some ⟨wr.heap.size + 1, 0, none⟩), tx1, .slice (some ⟨tp, 0, none⟩) (L + 1) (L + 1), .int .i64 0, .pointer none] 57))
    W.heap[w.heap.size]? = some (.cells #[x0, x1, x2, x3, x4] 31 (0, 0)) ∧ Built w W l S L n (wr.heap.size + 1 + 1) (wr.heap.size + 1) wr.heap.size tp gs ga gp gf gr A Z := by
  intro W
  have hR : w.heap.size < wr.heap.size := lt_of_heap hres
  have ord := hst.ord
  have sS := own_lt hst.S
  have sA := own_lt hst.A
  have sP := own_lt hst.P
  have sF := own_lt hst.F
  have sR := own_lt hst.R
  obtain ⟨X5, hX5⟩ : ∃ X5, X5 = ((((wr.setCell ⟨w.heap.size, 0, none⟩ x0).setCell ⟨w.heap.size, 1, none⟩ x1).setCell ⟨w.heap.size, 2, none⟩ x2).setCell ⟨w.heap.size, 3, none⟩ x3).setCell ⟨w.heap.size, 4, none⟩ x4 := ⟨_, rfl⟩
  have hs5 : X5.heap.size = wr.heap.size := by rw [hX5]; simp [World.setCell]
  have ho5 : ∀ k, k ≠ w.heap.size → X5.heap[k]? = wr.heap[k]? := fun k hk => by rw [hX5]; exact five_other hk _ _ _ _ _
  have hr5 : X5.heap[w.heap.size]? = some (.cells #[x0, x1, x2, x3, x4] 31 (0, 0)) := by rw [hX5]; exact five_stored hres _ _ _ _ _
  have hb5 : Below w.heap.size wr X5 := by
    rw [hX5]
    exact (((((Below.refl w.heap.size wr).setCell (p := ⟨w.heap.size, 0, none⟩) (Nat.le_refl _) x0).setCell (p := ⟨w.heap.size, 1, none⟩) (Nat.le_refl _) x1).setCell (p := ⟨w.heap.size, 2, none⟩) (Nat.le_refl _) x2).setCell (p := ⟨w.heap.size, 3, none⟩) (Nat.le_refl _) x3).setCell (p := ⟨w.heap.size, 4, none⟩) (Nat.le_refl _) x4
  have hW : W = ((X5.alloc (.cells #[.int .u64 1, .int .u64 1] 36)).alloc (.cells #[.int .u64 A, .int .u64 Z, .slice (some ⟨wr.heap.size, 0, none⟩) 1 1] 54)).alloc (.cells #[.pointer (some ⟨wr.heap.size + 1, 0, none⟩), tx1, .slice (some ⟨tp, 0, none⟩) (L + 1) (L + 1), .int .i64 0, .pointer none] 57) := by rw [hX5]
  clear_value W
  obtain ⟨f1, f2, f3, f4⟩ := three_new X5 (.cells #[.int .u64 1, .int .u64 1] 36) (.cells #[.int .u64 A, .int .u64 Z, .slice (some ⟨wr.heap.size, 0, none⟩) 1 1] 54) (.cells #[.pointer (some ⟨wr.heap.size + 1, 0, none⟩), tx1, .slice (some ⟨tp, 0, none⟩) (L + 1) (L + 1), .int .i64 0, .pointer none] 57)
  rw [hs5] at f1 f2 f3
  have g1 : W.heap[wr.heap.size]? = some (.cells #[.int .u64 1, .int .u64 1] 36 (0, 0)) := by rw [hW]; exact f1
  have g2 : W.heap[wr.heap.size + 1]? = some (.cells #[.int .u64 A, .int .u64 Z, .slice (some ⟨wr.heap.size, 0, none⟩) 1 1] 54 (0, 0)) := by rw [hW]; exact f2
  have g3 : W.heap[wr.heap.size + 1 + 1]? = some (.cells #[.pointer (some ⟨wr.heap.size + 1, 0, none⟩), tx1, .slice (some ⟨tp, 0, none⟩) (L + 1) (L + 1), .int .i64 0, .pointer none] 57 (0, 0)) := by rw [hW]; exact f3
  have gb : Below X5.heap.size X5 W := by rw [hW]; exact ⟨f4.os, f4.tape, f4.output, f4.size, f4.block⟩
  have hsW : wr.heap.size + 1 + 1 < W.heap.size := lt_of_heap g3
  have keep : ∀ k, k < wr.heap.size → k ≠ w.heap.size → W.heap[k]? = wr.heap[k]? := fun k hk hne => (gb.block k (by omega)).trans (ho5 k hne)
  have kS := own_keep hst.S (keep gs sS (by omega))
  have kA := own_keep hst.A (keep ga sA (by omega))
  have kP := own_keep hst.P (keep gp sP (by omega))
  have kF := own_keep hst.F (keep gf sF (by omega))
  have kR := own_keep hst.R (keep gr sR (by omega))
  have kT : W.rowIs tp 36 ((L + 1) * 2) (fpF (fun j => (pf A l j, pf Z l j))) := htp.of_block ((keep tp (by omega) (by omega)).trans (hst.bel.block tp h1))
  have hlen : (flTo L S l n).length = spA L S l n := rfl
  refine ⟨(gb.block _ (by omega)).trans hr5, ?_⟩
  refine ⟨⟨g2, ?_⟩, ⟨⟨_, _, _, g3⟩, ⟨fun x hx => own_cell kS (spCells_get L S n x hx).1, fun x hx => own_cell kS (spCells_get L S n x hx).2, fun x hx => own_cell kA (atCells_get L S l n x hx)⟩, kT, fun x hx => ?_, fun x hx => ?_⟩, ⟨⟨by omega, by omega, by omega, by omega, by omega⟩, ⟨by omega, by omega, by omega, by omega, by omega⟩, ⟨by omega, by omega, by omega, by omega, by omega⟩⟩,
    fun x hx => own_cell kF ?_, fun k hk => own_cell kR (runCells_get A Z _ k (by rw [hlen]; exact hk)).1, fun k hk => own_cell kR (runCells_get A Z _ k (by rw [hlen]; exact hk)).2, ⟨by omega, by omega, by omega, by omega, by omega, by omega⟩, ⟨by omega, by omega⟩, ?_⟩
  · rw [powL_zero]
    exact ⟨rfl, .inr ⟨wr.heap.size, 1, _, rfl, Nat.zero_le _, g1, Nat.le_refl _, by decide, rfl, rfl⟩⟩
  · rw [pf_flTo L S l A n x (by omega)]
    exact own_cell kP (preCells_get A Z L S l n x hx).1
  · rw [pf_flTo L S l Z n x (by omega)]
    exact own_cell kP (preCells_get A Z L S l n x hx).2
  · rw [← hlen] at hx
    simp [idCells, List.getD_eq_getElem?_getD, hx]
  · have hb2 : Below w.heap.size w wr := hb.trans (hst.bel.mono (by omega))
    exact ⟨gb.os.trans (hb5.os.trans hb2.os), gb.tape.trans (hb5.tape.trans hb2.tape), gb.output.trans (hb5.output.trans hb2.output), by have := hb2.size; omega, fun k hk => (keep k (by omega) (by omega)).trans (hb2.block k hk)⟩
#print axioms built_end
end Go.Proofs.Ybulkese
