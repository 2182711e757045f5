/-
  THE WALKS OF zzs0277bnew AND zzs0277bids.
-/
import Derived.Test.YbulkeseBetween
import Derived.Deep.OwnRows
namespace Go.Proofs.Ybulkese
open Go.RowKit

set_option maxHeartbeats 400000 in
theorem new_any (a b : Nat) (w : World) (ha : (a : Int) < 18446744073709551616) (hb : (b : Int) < 18446744073709551616) :
    Calls Yba.prog 11 #[.int .u64 a, .int .u64 b] w fun e w' => ∃ B g A Z, e = .returned (.pointer (some ⟨B, 0, none⟩)) ∧ Fpr w' B g 1 A Z 0 ∧ A < P61 ∧ Z < P61 ∧ w.heap.size ≤ B ∧ w.heap.size ≤ g ∧ Below w.heap.size w w' := by
  go_enter Yba.func11, Yba.ntmps11
  go_wp2
  go_ret
  have e1 : (2 + (a : Int) % 2305843009213693948) = ((2 + a % 2305843009213693948 : Nat) : Int) := by omega
  have e2 : (2 + (b : Int) % 2305843009213693948) = ((2 + b % 2305843009213693948 : Nat) : Int) := by omega
  rw [e1, e2]
  have h0 : ((w.alloc (.cells #[.int .u64 1, .int .u64 1] 36)).alloc (.cells #[.int .u64 (2 + a % 2305843009213693948 : Nat), .int .u64 (2 + b % 2305843009213693948 : Nat), .slice (some ⟨w.heap.size, 0, none⟩) 1 1] 54)).heap[w.heap.size]? = some (.cells #[.int .u64 1, .int .u64 1] 36 (0, 0)) := by
    rw [Below.heap_alloc _ _ _ (by simp)]; exact heap_alloc_new w _
  have h1 : ((w.alloc (.cells #[.int .u64 1, .int .u64 1] 36)).alloc (.cells #[.int .u64 (2 + a % 2305843009213693948 : Nat), .int .u64 (2 + b % 2305843009213693948 : Nat), .slice (some ⟨w.heap.size, 0, none⟩) 1 1] 54)).heap[w.heap.size + 1]? = some (.cells #[.int .u64 (2 + a % 2305843009213693948 : Nat), .int .u64 (2 + b % 2305843009213693948 : Nat), .slice (some ⟨w.heap.size, 0, none⟩) 1 1] 54 (0, 0)) := by
    have := heap_alloc_new (w.alloc (.cells #[.int .u64 1, .int .u64 1] 36)) (.cells #[.int .u64 (2 + a % 2305843009213693948 : Nat), .int .u64 (2 + b % 2305843009213693948 : Nat), .slice (some ⟨w.heap.size, 0, none⟩) 1 1] 54)
    simpa using this
  refine ⟨w.heap.size + 1, w.heap.size, 2 + a % 2305843009213693948, 2 + b % 2305843009213693948, rfl, ⟨h1, ?_, ?_⟩, by unfold P61; omega, by unfold P61; omega, by omega, Nat.le_refl _, ((Below.refl _ _).alloc (Nat.le_refl _) _).alloc (by simp) _⟩
  · rw [powL_zero]; rfl
  · exact .inr ⟨w.heap.size, 1, _, rfl, Nat.zero_le _, h0, Nat.le_refl _, by decide, rfl, by rw [powL_zero]; rfl⟩

def idF (l : List Nat) (k : Nat) (j : Nat) : Value := if j < k then .int .i32 (l.getD j 0 : Nat) else .int .i32 0
theorem idF_step (l : List Nat) (k : Nat) (_ : l.getD k 0 < 65536) (j : Nat) : idF l (k + 1) j = if j = k then .int .i32 (l.getD k 0 : Nat) else idF l k j := by
  unfold idF
  by_cases h : j = k
  · subst h; simp
  · simp only [h, if_false]
    by_cases h2 : j < k
    · rw [if_pos h2, if_pos (by omega)]
    · rw [if_neg h2, if_neg (by omega)]
theorem info21 : (Yba.prog.info? 21).map (fun i => (i.zero, i.size, i.bytes)) = some (some (.int .i32 0), 1, 4) := by kernel_rfl

set_option maxHeartbeats 400000 in
theorem ids_any (at0 : Option Addr) (len cap : Nat) (l : List Nat) (w : World) (hlen : len ≤ 1024) (hl : l.length = len) (hx : ∀ x ∈ l, x < 65536)
    (hin : 0 < len → ∃ b off, at0 = some ⟨b, off, none⟩ ∧ b < w.heap.size ∧ ∀ i, i < len → w.cell? ⟨b, off + i, none⟩ = some (.int .u16 (l.getD i 0 : Nat))) :
    Calls Yba.prog 12 #[.slice at0 len cap] w fun e w' => e = .returned (.slice (some ⟨w.heap.size, 0, none⟩) len len) ∧ w'.rowIs w.heap.size 21 len (fun j => .int .i32 (l.getD j 0 : Nat)) ∧ Below w.heap.size w w' := by
  have hmk := fun w => run_make_row' (P := Yba.prog) 32 21 (.int .i32 0) 4 Yba.underlying32 info21 rfl .i64 .i64 len (by omega) (by omega) w
  have HI : Hid (0 < len → ∃ b off, at0 = some ⟨b, off, none⟩ ∧ b < w.heap.size ∧ ∀ i, i < len → w.cell? ⟨b, off + i, none⟩ = some (.int .u16 (l.getD i 0 : Nat))) := hin
  have HX : Hid (∀ x ∈ l, x < 65536) := hx
  have HL : Hid (l.length = len) := hl
  clear hin hx hl
  go_enter Yba.func12, Yba.ntmps12
  go_wp2
  go_loopw [4] (fun i wr => ∃ k : Nat, k ≤ len ∧ i = .int .i64 k ∧ wr.rowIs w.heap.size 21 len (idF l k) ∧ Below w.heap.size w wr) (fun i _ => len - (intOf i).toNat)
  case atStart => exact ⟨0, Nat.zero_le _, rfl, (World.rowIs_made w _ _ _).congr (fun i _ => by simp [idF]), (Below.refl _ _).alloc (Nat.le_refl _) _⟩
  case round =>
    obtain ⟨k, hk, rfl, hrow, hbel⟩ := hrel
    by_cases hlt : (k : Int) < len
    · obtain ⟨b, off, rfl, hb, hc⟩ := HI.out (by omega)
      have ck : wr.cell? ⟨b, off + k, none⟩ = some (.int .u16 (l.getD k 0 : Nat)) := (hbel.cell (by exact hb)).trans (hc k (by omega))
      have gk : wr.cell? ⟨w.heap.size, k, none⟩ = some (idF l k k) := hrow.cell (by omega)
      have fk := hrow.frozen k
      have hv : l.getD k 0 < 65536 := by
        rw [List.getD_eq_getElem?_getD, List.getElem?_eq_getElem (by rw [HL.out]; omega)]
        exact HX.out _ (List.getElem_mem _)
      have hstep := idF_step l k hv
      obtain ⟨v, hvv⟩ : ∃ v, v = l.getD k 0 := ⟨_, rfl⟩
      rw [← hvv] at ck hv hstep
      have HV : Hid (∀ j, idF l (k + 1) j = if j = k then .int .i32 (v : Nat) else idF l k j) := hstep
      clear hstep hvv
      have HR : Hid (wr.rowIs w.heap.size 21 len (idF l k)) := hrow
      have HB : Hid (Below w.heap.size w wr) := hbel
      clear hrow hbel hc
      go_wp2
      go_roundw
      case rel => exact ⟨k + 1, by omega, by go_num, (HR.out.set k _).congr (fun j _ => (HV.out j).symm), HB.out.setCell (Nat.le_refl _) _⟩
      case measure => simp [intOf]; omega
    · go_wp2
      go_ret
      exact ⟨rfl, hrow.congr (fun j hj => by simp [idF]; omega), hbel⟩

#print axioms new_any
#print axioms ids_any
end Go.Proofs.Ybulkese
