/-
  THE SEMAPHORE's CELLS, AND WHAT EACH SMALL FUNCTION ON THE ROAD DOES TO THEM.
-/
import Derived.Test.YbulketuFmtRows
import Derived.Test.YbulketuFmtLocks
import Derived.Conc.MuLone
import Derived.WalkKit
import Derived.WalkSpells
import Derived.WalkLawsBesides
import Derived.Extends
import Derived.Laws.Bits64
import Derived.Deep.QuietTactic
import Derived.BigQuiet
namespace Go.Proofs.YbulketuFmt
open Go.RowKit
open Go.MuLone

/-- The semaphore's block: the lock free, the size 'z', the units held 'h', the line's front 'fr' and length 'ln', nobody above the size. -/
structure Sem (w : World) (b : Nat) (z h : Int) (fr : Option Addr) (ln : Int) : Prop where
  c0 : w.cell? ⟨b, 0, none⟩ = some (.int .i32 0)
  c2 : w.cell? ⟨b, 2, none⟩ = some (.int .i64 z)
  c3 : w.cell? ⟨b, 3, none⟩ = some (.int .i64 h)
  c4 : w.cell? ⟨b, 4, none⟩ = some (.pointer fr)
  c6 : w.cell? ⟨b, 6, none⟩ = some (.int .i64 ln)
  c9 : w.cell? ⟨b, 9, none⟩ = some (.int .i64 0)
  z0 : w.frozen? ⟨b, 0, none⟩ = false
  z3 : w.frozen? ⟨b, 3, none⟩ = false

/-- Whatever lies below block 'b' is kept. -/
def Kept (b : Nat) (w w' : World) : Prop := ∀ W : World, W.heap.size ≤ b → W.Extends w → W.Extends w'

theorem Kept.trans {b : Nat} {w w1 w2 : World} (h : Kept b w w1) (h' : Kept b w1 w2) : Kept b w w2 := fun W hb hx => h' W hb (h W hb hx)
theorem Kept.refl (b : Nat) (w : World) : Kept b w w := fun _ _ hx => hx

theorem ext_drewN {W w : World} (h : W.Extends w) (n : Nat) : W.Extends (w.drewN n) := ⟨h.os, h.tape, h.output, h.size, h.cell, h.frozen, h.block⟩

theorem cell_beside (w : World) (b i j : Nat) (v : Value) (h : i ≠ j) : (w.setCell ⟨b, i, none⟩ v).cell? ⟨b, j, none⟩ = w.cell? ⟨b, j, none⟩ :=
  World.cell?_setCell_other w ⟨b, i, none⟩ ⟨b, j, none⟩ v (fun e => h (congrArg Addr.off e))

theorem anat_any (a : Int) (w : World) (ha : a < 9223372036854775808) (ha' : -9223372036854775808 ≤ a) :
    Calls Ybaf.prog 9 #[.int .i64 a] w fun e w' => e = .returned (.int .i64 (if a < 0 then -(a + 1) else a)) ∧ w' = w := by
  by_cases h : a < 0
  · have e1 : wrap64 (a + 1) = a + 1 := by simp only [wrap64]; omega
    have e2 : wrap64 (-(a + 1)) = -(a + 1) := by simp only [wrap64]; omega
    have hd : decide (a < 0) = true := by simp [h]
    go_enter Ybaf.func9, Ybaf.ntmps9
    go_wp2
    go_ret
    simp
  · have hd : decide (a < 0) = false := by simp [h]
    go_enter Ybaf.func9, Ybaf.ntmps9
    go_wp2
    go_ret
    simp

theorem not_i64 (a : Int) (ha : a < 0) (ha' : -9223372036854775808 ≤ a) : bits .xor .i64 (-1) a = -(a + 1) := by
  have h2 : ((BitVec.ofInt 64 a).toNat : Int) = a + 18446744073709551616 := by
    rw [BitVec.toNat_ofInt]; omega
  show IntKind.i64.wrap ((BitVec.ofInt 64 (-1) ^^^ BitVec.ofInt 64 a).toNat : Int) = _
  have h1 : BitVec.ofInt 64 (-1) = BitVec.allOnes 64 := by decide
  rw [h1, BitVec.allOnes_xor, BitVec.toNat_not]
  have h3 : ((2 ^ 64 - 1 - (BitVec.ofInt 64 a).toNat : Nat) : Int) = -(a + 1) := by omega
  rw [h3]
  simp [IntKind.wrap, IntKind.bits, IntKind.signed]
  omega

theorem cnat_any (a : Int) (w : World) (ha' : -9223372036854775808 ≤ a) :
    Calls Ybaf.prog 17 #[.int .i64 a] w fun e w' => e = .returned (.int .i64 (if a < 0 then -(a + 1) else a)) ∧ w' = w := by
  by_cases h : a < 0
  · have hd : decide (a < 0) = true := by simp [h]
    have e1 := not_i64 a h ha'
    go_enter Ybaf.func17, Ybaf.ntmps17
    go_wp2
    go_ret
    simp
  · have hd : decide (a < 0) = false := by simp [h]
    go_enter Ybaf.func17, Ybaf.ntmps17
    go_wp2
    go_ret
    simp

theorem weight_ok (n : Int) (w : World) (hn : 0 ≤ n) : Calls Ybaf.prog 16 #[.int .i64 n] w fun e w' => e = .returned (.tuple #[]) ∧ w' = w := by
  have hd : decide (n < 0) = false := by simp [hn]
  go_enter Ybaf.func16, Ybaf.ntmps16
  go_wp2
  go_end0
  exact ⟨rfl, rfl⟩

theorem size_ok (n : Int) (w : World) (hn : 0 ≤ n) : Calls Ybaf.prog 19 #[.int .i64 n] w fun e w' => e = .returned (.tuple #[]) ∧ w' = w := by
  have hd : decide (n < 0) = false := by simp [hn]
  go_enter Ybaf.func19, Ybaf.ntmps19
  go_wp2
  go_end0
  exact ⟨rfl, rfl⟩

/-- Size, the lock free. -/
theorem size_any {b : Nat} {z h ln : Int} {fr : Option Addr} {w : World} (S : Sem w b z h fr ln) :
    Calls Ybaf.prog 11 #[.pointer (some ⟨b, 0, none⟩)] w fun e w' => e = .returned (.int .i64 z) ∧ Sem w' b z h fr ln ∧ Kept b w w' := by
  obtain ⟨c0, c2, c3, c4, c6, c9, z0, z3⟩ := S
  go_enter_defers Ybaf.func11, Ybaf.ntmps11
  go_wp2_with (go_at_call 20; refine (lock_free Ybaf.muLib ⟨b, 0, none⟩ _ c0 z0).mono ?_; rintro e w' ⟨rfl, rfl⟩)
  refine leaves_cons (f := 21) (args := #[.pointer (some ⟨b, 0, none⟩)]) (by simp) (by simp [go_sem]) ?_
  refine (unlock_deferred Ybaf.muLib ⟨b, 0, none⟩ .returning _ ?_ ?_).mono ?_
  · exact World.cell?_setCell_same w ⟨b, 0, none⟩ (.int .i32 1) c0
  · simp [z0]
  rintro e u' w'' ⟨rfl, rfl, rfl⟩
  refine ⟨_, results_tmp rfl _ _ _, rfl, ⟨?_, ?_, ?_, ?_, ?_, ?_, ?_, ?_⟩, fun W hb hx => (hx.setCell _ _ hb).setCell _ _ hb⟩
  · exact World.cell?_setCell_same _ ⟨b, 0, none⟩ _ (World.cell?_setCell_same w ⟨b, 0, none⟩ (.int .i32 1) c0)
  all_goals simp [cell_beside, *]

/-- Held, the lock free. -/
theorem held_any {b : Nat} {z h ln : Int} {fr : Option Addr} {w : World} (S : Sem w b z h fr ln) :
    Calls Ybaf.prog 12 #[.pointer (some ⟨b, 0, none⟩)] w fun e w' => e = .returned (.int .i64 h) ∧ Sem w' b z h fr ln ∧ Kept b w w' := by
  obtain ⟨c0, c2, c3, c4, c6, c9, z0, z3⟩ := S
  go_enter_defers Ybaf.func12, Ybaf.ntmps12
  go_wp2_with (go_at_call 20; refine (lock_free Ybaf.muLib ⟨b, 0, none⟩ _ c0 z0).mono ?_; rintro e w' ⟨rfl, rfl⟩)
  refine leaves_cons (f := 21) (args := #[.pointer (some ⟨b, 0, none⟩)]) (by simp) (by simp [go_sem]) ?_
  refine (unlock_deferred Ybaf.muLib ⟨b, 0, none⟩ .returning _ ?_ ?_).mono ?_
  · exact World.cell?_setCell_same w ⟨b, 0, none⟩ (.int .i32 1) c0
  · simp [z0]
  rintro e u' w'' ⟨rfl, rfl, rfl⟩
  refine ⟨_, results_tmp rfl _ _ _, rfl, ⟨?_, ?_, ?_, ?_, ?_, ?_, ?_, ?_⟩, fun W hb hx => (hx.setCell _ _ hb).setCell _ _ hb⟩
  · exact World.cell?_setCell_same _ ⟨b, 0, none⟩ _ (World.cell?_setCell_same w ⟨b, 0, none⟩ (.int .i32 1) c0)
  all_goals simp [cell_beside, *]

/-- Waiting, the lock free. -/
theorem waiting_any {b : Nat} {z h ln : Int} {fr : Option Addr} {w : World} (S : Sem w b z h fr ln) (l0 : 0 ≤ ln) (l1 : ln < 9223372036854775808) :
    Calls Ybaf.prog 18 #[.pointer (some ⟨b, 0, none⟩)] w fun e w' => e = .returned (.int .i64 ln) ∧ Sem w' b z h fr ln ∧ Kept b w w' := by
  obtain ⟨c0, c2, c3, c4, c6, c9, z0, z3⟩ := S
  have e1 : wrap64 (ln + 0) = ln := by simp only [wrap64]; omega
  have d6 : (w.setCell ⟨b, 0, none⟩ (.int .i32 1)).cell? ⟨b, 6, none⟩ = some (.int .i64 ln) := by simp [cell_beside, *]
  have d9 : (w.setCell ⟨b, 0, none⟩ (.int .i32 1)).cell? ⟨b, 9, none⟩ = some (.int .i64 0) := by simp [cell_beside, *]
  go_enter_defers Ybaf.func18, Ybaf.ntmps18
  go_wp2_with (go_at_call 20; refine (lock_free Ybaf.muLib ⟨b, 0, none⟩ _ c0 z0).mono ?_; rintro e w' ⟨rfl, rfl⟩)
  go_quiet (fail)
  go_wp2
  refine leaves_cons (f := 21) (args := #[.pointer (some ⟨b, 0, none⟩)]) (by simp) (by simp [go_sem]) ?_
  refine (unlock_deferred Ybaf.muLib ⟨b, 0, none⟩ .returning _ ?_ ?_).mono ?_
  · exact World.cell?_setCell_same w ⟨b, 0, none⟩ (.int .i32 1) c0
  · simp [z0]
  rintro e u' w'' ⟨rfl, rfl, rfl⟩
  refine ⟨_, results_tmp rfl _ _ _, rfl, ⟨?_, ?_, ?_, ?_, ?_, ?_, ?_, ?_⟩, fun W hb hx => ((ext_drewN (hx.setCell _ _ hb) _).setCell _ _ hb)⟩
  · exact World.cell?_setCell_same _ ⟨b, 0, none⟩ _ (World.cell?_setCell_same w ⟨b, 0, none⟩ (.int .i32 1) c0)
  all_goals simp [cell_beside, *]

/-- fits. -/
theorem fits_any {b : Nat} {z h n : Int} {w : World} (c2 : w.cell? ⟨b, 2, none⟩ = some (.int .i64 z)) (c3 : w.cell? ⟨b, 3, none⟩ = some (.int .i64 h)) (z0 : 0 ≤ z) (h0 : 0 ≤ h)
    (z1 : z < 9223372036854775808) (h1 : h < 9223372036854775808) :
    Calls Ybaf.prog 35 #[.pointer (some ⟨b, 0, none⟩), .int .i64 n] w fun e w' => e = .returned (.bool (decide (n ≤ z - h))) ∧ ∃ q, w' = w.drewN q := by
  have e1 : wrap64 (z - h) = z - h := by simp only [wrap64]; omega
  go_enter Ybaf.func35, Ybaf.ntmps35
  go_wp2
  go_quiet (fail)
  go_wp2
  go_ret
  exact ⟨rfl, _, rfl⟩

/-- canTakeNow. -/
theorem can_any {b : Nat} {z h n : Int} {fr : Option Addr} {w : World} (c2 : w.cell? ⟨b, 2, none⟩ = some (.int .i64 z)) (c3 : w.cell? ⟨b, 3, none⟩ = some (.int .i64 h)) (c4 : w.cell? ⟨b, 4, none⟩ = some (.pointer fr)) (z0 : 0 ≤ z) (h0 : 0 ≤ h)
    (z1 : z < 9223372036854775808) (h1 : h < 9223372036854775808) :
    Calls Ybaf.prog 28 #[.pointer (some ⟨b, 0, none⟩), .int .i64 n] w fun e w' => e = .returned (.bool (fr.isNone && decide (n ≤ z - h))) ∧ ∃ q, w' = w.drewN q := by
  cases fr with
  | none =>
    go_enter Ybaf.func28, Ybaf.ntmps28
    go_wp2_with (go_at_call 35; refine (fits_any (z := z) (h := h) c2 c3 z0 h0 z1 h1).mono ?_; rintro e w' ⟨rfl, q, rfl⟩)
    go_ret
    exact ⟨rfl, _, rfl⟩
  | some x =>
    go_enter Ybaf.func28, Ybaf.ntmps28
    go_wp2
    go_ret
    exact ⟨rfl, 0, rfl⟩

theorem Sem.locked {b : Nat} {z h ln : Int} {fr : Option Addr} {w : World} (S : Sem w b z h fr ln) :
    (w.setCell ⟨b, 0, none⟩ (.int .i32 1)).cell? ⟨b, 2, none⟩ = some (.int .i64 z) ∧ (w.setCell ⟨b, 0, none⟩ (.int .i32 1)).cell? ⟨b, 3, none⟩ = some (.int .i64 h) ∧ (w.setCell ⟨b, 0, none⟩ (.int .i32 1)).cell? ⟨b, 4, none⟩ = some (.pointer fr) := by
  obtain ⟨c0, c2, c3, c4, c6, c9, z0, z3⟩ := S
  refine ⟨?_, ?_, ?_⟩
  all_goals simp [cell_beside, *]

/-- TryAcquire of no negative number, the lock free. -/
theorem try_any {b : Nat} {z h n ln : Int} {fr : Option Addr} {w : World} (S : Sem w b z h fr ln) (z0 : 0 ≤ z) (h0 : 0 ≤ h) (n0 : 0 ≤ n)
    (z1 : z < 9223372036854775808) (h1 : h < 9223372036854775808) :
    Calls Ybaf.prog 14 #[.pointer (some ⟨b, 0, none⟩), .int .i64 n] w fun e w' => e = .returned (.bool (fr.isNone && decide (n ≤ z - h))) ∧
      Sem w' b z (if (fr.isNone && decide (n ≤ z - h)) = true then h + n else h) fr ln ∧ Kept b w w' := by
  obtain ⟨d2, d3, d4⟩ := S.locked
  obtain ⟨c0, c2, c3, c4, c6, c9, f0, f3⟩ := S
  cases hok : (fr.isNone && decide (n ≤ z - h)) with
  | true =>
    have hn : n ≤ z - h := by simp at hok; omega
    have e1 : wrap64 (h + n) = h + n := by simp only [wrap64]; omega
    go_enter Ybaf.func14, Ybaf.ntmps14
    go_wp2_with (first
      | (go_at_call 16; refine (weight_ok n _ n0).mono ?_; rintro e w' ⟨rfl, rfl⟩)
      | (go_at_call 20; refine (lock_free Ybaf.muLib ⟨b, 0, none⟩ _ c0 f0).mono ?_; rintro e w' ⟨rfl, rfl⟩)
      | (go_at_call 28; refine (can_any (n := n) (z := z) (h := h) (fr := fr) d2 d3 d4 z0 h0 z1 h1).mono ?_; rintro e w' ⟨rfl, q, rfl⟩; rw [hok])
      | (go_at_call 21; refine (unlock_held Ybaf.muLib ⟨b, 0, none⟩ _ ((cell_beside _ b 3 0 _ (by decide)).trans ((World.cell?_drewN ..).trans (World.cell?_setCell_same _ ⟨b, 0, none⟩ (.int .i32 1) c0))) (by simp [f0])).mono ?_; rintro e w'' ⟨rfl, rfl⟩))
    go_ret
    refine ⟨rfl, ⟨?_, ?_, ?_, ?_, ?_, ?_, ?_, ?_⟩, fun W hb hx => ((ext_drewN (hx.setCell _ _ hb) _).setCell _ _ hb).setCell _ _ hb⟩
    · exact World.cell?_setCell_same _ ⟨b, 0, none⟩ _ ((cell_beside _ b 3 0 _ (by decide)).trans ((World.cell?_drewN ..).trans (World.cell?_setCell_same _ ⟨b, 0, none⟩ (.int .i32 1) c0)))
    · simp [cell_beside, *]
    · exact (cell_beside _ b 0 3 _ (by decide)).trans (World.cell?_setCell_same _ ⟨b, 3, none⟩ _ ((World.cell?_drewN ..).trans d3))
    all_goals simp [cell_beside, *]
  | false =>
    go_enter Ybaf.func14, Ybaf.ntmps14
    go_wp2_with (first
      | (go_at_call 16; refine (weight_ok n _ n0).mono ?_; rintro e w' ⟨rfl, rfl⟩)
      | (go_at_call 20; refine (lock_free Ybaf.muLib ⟨b, 0, none⟩ _ c0 f0).mono ?_; rintro e w' ⟨rfl, rfl⟩)
      | (go_at_call 28; refine (can_any (n := n) (z := z) (h := h) (fr := fr) d2 d3 d4 z0 h0 z1 h1).mono ?_; rintro e w' ⟨rfl, q, rfl⟩; rw [hok])
      | (go_at_call 21; refine (unlock_held Ybaf.muLib ⟨b, 0, none⟩ _ ((World.cell?_drewN ..).trans (World.cell?_setCell_same _ ⟨b, 0, none⟩ (.int .i32 1) c0)) (by simp [f0])).mono ?_; rintro e w'' ⟨rfl, rfl⟩))
    go_ret
    refine ⟨rfl, ⟨?_, ?_, ?_, ?_, ?_, ?_, ?_, ?_⟩, fun W hb hx => ((ext_drewN (hx.setCell _ _ hb) _).setCell _ _ hb)⟩
    · exact World.cell?_setCell_same _ ⟨b, 0, none⟩ _ ((World.cell?_drewN ..).trans (World.cell?_setCell_same _ ⟨b, 0, none⟩ (.int .i32 1) c0))
    all_goals simp [cell_beside, *]

/-- NewWeighted of no negative number. -/
theorem new_any (n : Int) (w : World) (hn : 0 ≤ n) :
    Calls Ybaf.prog 10 #[.int .i64 n] w fun e w' => e = .returned (.pointer (some ⟨w.heap.size, 0, none⟩)) ∧ Sem w' w.heap.size n 0 none 0 ∧ Kept w.heap.size w w' := by
  go_enter Ybaf.func10, Ybaf.ntmps10
  go_wp2_with (go_at_call 19; refine (size_ok n _ hn).mono ?_; rintro e w' ⟨rfl, rfl⟩)
  go_ret
  refine ⟨rfl, ⟨?_, ?_, ?_, ?_, ?_, ?_, ?_, ?_⟩, fun W hb hx => hx.alloc _⟩
  all_goals simp [go_sem]

end Go.Proofs.YbulketuFmt
