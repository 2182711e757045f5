/-
  A SLICE OF SPANS THAT CAME IN: pairs of numbers below 65536.
-/
import Derived.Test.YbulkeseHeadWalk
import Derived.Deep.SlicePairs
import Derived.OpenShut
namespace Go.Proofs.Ybulkese
open Go.ChangeShapes Go.WideShapes Go.RowKit

def numOf : Value → Nat
  | .int _ z => z.toNat
  | _ => 0

/-- What the walk is told of the slice of spans. -/
def IsPairs (w : World) (a : Option Addr) (n : Nat) (S : List (Nat × Nat)) : Prop :=
  S.length = n ∧ (∀ x ∈ S, x.1 < 65536 ∧ x.2 < 65536) ∧ (0 < n → ∃ b off, a = some ⟨b, off, none⟩ ∧ b < w.heap.size ∧ ∀ i, i < n →
    w.cell? ⟨b, off + i * 2, none⟩ = some (.int .u16 ((S.getD i (0, 0)).1 : Nat)) ∧ w.cell? ⟨b, off + (i * 2 + 1), none⟩ = some (.int .u16 ((S.getD i (0, 0)).2 : Nat)))

theorem cells50 : Yba.prog.cellsOf 50 = 2 := by kernel_rfl
theorem cells48 : Yba.prog.cellsOf 48 = 1 := by kernel_rfl

theorem pairs_in {H : Type} {enc : TypeId × Value → H} {w : World} {a : Option Addr} {n cap : Nat} {d : DataW H} {ps : List MemPlace} {held : Bool}
    (h : DataW.Trod enc Yba.prog w 0 (fun _ => true) held 24 (.slice a n cap) d ps) : ∃ S, IsPairs w a n S := by
  obtain ⟨fuel, hf⟩ := h
  rcases Deep.open_slice_pairs Yba.underlying24 Yba.underlying50 cells50 rfl rfl cells48 cells48 hf with ⟨hcs, _⟩ | ⟨x, len, cap', m, k, V0, V1, D0, D1, P0, P1, hcs, _, hl, _, hm, _, hc⟩
  · simp [Value.cells] at hcs
    obtain ⟨rfl, rfl, rfl⟩ := hcs
    exact ⟨[], rfl, fun x hx => by simp at hx, fun h => absurd h (by omega)⟩
  · simp [Value.cells] at hcs
    obtain ⟨rfl, rfl, rfl⟩ := hcs
    simp at hm
    subst hm
    have num : ∀ {v : Value} {D : DataW H} {P : List MemPlace}, DataW.trod enc Yba.prog w 0 (fun _ => true) held k 48 [v] = some (D, P) → v = .int .u16 (numOf v : Nat) ∧ numOf v < 65536 := by
      intro v D P hv
      obtain ⟨z, e, _, hw⟩ := DataW.trod_int Yba.underlying48 hv
      simp at e
      subst e
      simp [Lit.wf, IntKind.min, IntKind.max, IntKind.signed, IntKind.bits] at hw
      simp only [numOf]
      exact ⟨by rw [Int.toNat_of_nonneg (by omega)], by omega⟩
    refine ⟨(List.range n).map fun i => (numOf (V0 i), numOf (V1 i)), by simp, fun q hq => ?_, fun h0 => ?_⟩
    · obtain ⟨i, hi, rfl⟩ := List.mem_map.1 hq
      have hi' := List.mem_range.1 hi
      obtain ⟨_, _, c2, c3⟩ := hc i (by omega)
      exact ⟨(num c2).2, (num c3).2⟩
    · obtain ⟨b, off, spot⟩ := x
      have hspot : spot = none := by simpa [Addr.add] using World.cell?_spot (hc 0 (by omega)).1
      subst hspot
      refine ⟨b, off, rfl, ?_, fun i hi => ?_⟩
      · have := World.block_lt_of_cell? w _ (hc 0 (by omega)).1
        rw [add_plain] at this
        exact this
      · obtain ⟨c0, c1, c2, c3⟩ := hc i (by omega)
        rw [add_plain] at c0 c1
        have e : ((List.range n).map fun i => (numOf (V0 i), numOf (V1 i))).getD i (0, 0) = (numOf (V0 i), numOf (V1 i)) := by simp [List.getD_eq_getElem?_getD, hi]
        rw [e, c0, c1]
        exact ⟨by rw [← (num c2).1], by rw [← (num c3).1]⟩
#print axioms pairs_in
end Go.Proofs.Ybulkese
