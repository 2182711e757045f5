/-
  THE WALKS OF (*fingerprinter).extend AND zzs0277astep: one Horner step: each lays new blocks and turns none that was there.
-/
import Derived.Test.YbulkeseArith
import Derived.Deep.RegionHeld3
import Derived.Deep.DrawnRows
namespace Go.Proofs.Ybulkese
open Go.RowKit
attribute [local go_sem ↓] Go.wp_at_zero Go.wp_at_succ

theorem addMod_succ (x i : Nat) (hx : x < P61) (hi : i < 65536) (w : World) :
    Calls Yba.prog 19 #[.int .u64 x, .int .u64 ((i : Int) + 1)] w fun e w' => e = .returned (.int .u64 (am x (i + 1) : Nat)) ∧ w' = w :=
  addMod_any x (i + 1) hx (by unfold P61; omega) w

theorem cell_of_block {w : World} {B : Nat} {cs : Array Value} {t : TypeId} {fr : Nat × Nat} (hb : w.heap[B]? = some (.cells cs t fr)) (j : Nat) : w.cell? ⟨B, j, none⟩ = cs[j]? := cell_of_row w B j cs t fr hb

theorem wrap_i (i : Nat) (hi : i < 65536) : IntKind.u64.wrap (i : Int) = i := by rw [IntKind.wrap_u64]; omega
theorem wrap_i1 (i : Nat) (hi : i < 65536) : IntKind.u64.wrap ((i : Int) + 1) = i + 1 := by rw [IntKind.wrap_u64]; omega

set_option maxHeartbeats 400000 in
/-- extend. -/
theorem extend_any (B : Nat) (v2 : Value) (a b ha hb i : Nat) (w : World) (hB : w.heap[B]? = some (.cells #[.int .u64 a, .int .u64 b, v2] 54 (0, 0)))
    (la : a < P61) (lb : b < P61) (lha : ha < P61) (lhb : hb < P61) (hi : i < 65536) :
    Calls Yba.prog 23 #[.pointer (some ⟨B, 0, none⟩), .agg #[.int .u64 ha, .int .u64 hb], .int .i32 i] w fun e w' =>
      e = .returned (.agg #[.int .u64 (am (mm ha a) (i + 1) : Nat), .int .u64 (am (mm hb b) (i + 1) : Nat)]) ∧ Below w.heap.size w w' := by
  have c0 : w.cell? ⟨B, 0, none⟩ = some (.int .u64 a) := cell_of_block hB 0
  have c1 : w.cell? ⟨B, 1, none⟩ = some (.int .u64 b) := cell_of_block hB 1
  have n0 := World.new_ne w _ c0
  clear hB
  have w1 := wrap_i i hi
  have w2 := wrap_i1 i hi
  go_enter Yba.func23, Yba.ntmps23
  go_wp2
  go_region_held3 (fun w' => w'.cell? ⟨B, 0, none⟩ = some (.int .u64 a) ∧ w'.cell? ⟨B, 1, none⟩ = some (.int .u64 b) ∧ w'.cell? ⟨w.heap.size, 0, none⟩ = some (.int .u64 ha) ∧ w'.cell? ⟨w.heap.size, 1, none⟩ = some (.int .u64 hb)) (go_keep)
    (first
      | (go_at_call 20; refine (mulMod_any _ _ (by assumption) (by assumption) _).mono ?_; rintro e w' ⟨rfl, rfl⟩)
      | (go_at_call 19; refine (addMod_succ _ i (mm_lt _ _) hi _).mono ?_; rintro e w' ⟨rfl, rfl⟩))
  go_wp2
  exact bodyPost_ret (v := .agg #[.int .u64 (am (mm ha a) (i + 1) : Nat), .int .u64 (am (mm hb b) (i + 1) : Nat)]) (by simp [results, Yba.results23, go_sem]) rfl
    ⟨rfl, (((Below.refl _ _).alloc (Nat.le_refl _) _).alloc (by simp) _).drew⟩

set_option maxHeartbeats 400000 in
/-- zzs0277astep. -/
theorem step_any (a b ha hb i : Nat) (w : World) (la : a < P61) (lb : b < P61) (lha : ha < P61) (lhb : hb < P61) (hi : i < 65536) :
    Calls Yba.prog 9 #[.agg #[.int .u64 a, .int .u64 b], .agg #[.int .u64 ha, .int .u64 hb], .int .i32 i] w fun e w' =>
      e = .returned (.agg #[.int .u64 (am (mm ha a) (i + 1) : Nat), .int .u64 (am (mm hb b) (i + 1) : Nat)]) ∧ Below w.heap.size w w' := by
  have w1 := wrap_i i hi
  have w2 := wrap_i1 i hi
  go_enter Yba.func9, Yba.ntmps9
  go_wp2
  go_region_held3 (fun w' => w'.cell? ⟨w.heap.size, 0, none⟩ = some (.int .u64 a) ∧ w'.cell? ⟨w.heap.size, 1, none⟩ = some (.int .u64 b) ∧ w'.cell? ⟨w.heap.size + 1, 0, none⟩ = some (.int .u64 ha) ∧ w'.cell? ⟨w.heap.size + 1, 1, none⟩ = some (.int .u64 hb)) (go_keep)
    (first
      | (go_at_call 20; refine (mulMod_any _ _ (by assumption) (by assumption) _).mono ?_; rintro e w' ⟨rfl, rfl⟩)
      | (go_at_call 19; refine (addMod_succ _ i (mm_lt _ _) hi _).mono ?_; rintro e w' ⟨rfl, rfl⟩))
  go_wp2
  exact bodyPost_ret (v := .agg #[.int .u64 (am (mm ha a) (i + 1) : Nat), .int .u64 (am (mm hb b) (i + 1) : Nat)]) (by simp [results, Yba.results9, go_sem]) rfl
    ⟨rfl, ((((Below.refl _ _).alloc (Nat.le_refl _) _).alloc (by simp) _).alloc (by simp; omega) _).drew⟩

#print axioms extend_any
#print axioms step_any
end Go.Proofs.Ybulkese
