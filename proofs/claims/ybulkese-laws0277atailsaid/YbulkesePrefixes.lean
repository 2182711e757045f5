/-
  THE WALK OF (*fingerprinter).prefixes.
-/
import Derived.Test.YbulkeseMade
namespace Go.Proofs.Ybulkese
open Go.RowKit

/-- The cells of a row of fingerprints, by the index. -/
def fpF (q : Nat → Nat × Nat) (j : Nat) : Value := if j % 2 = 0 then .int .u64 ((q (j / 2)).1 : Nat) else .int .u64 ((q (j / 2)).2 : Nat)
theorem fpF_even (q : Nat → Nat × Nat) (k : Nat) : fpF q (k * 2) = .int .u64 ((q k).1 : Nat) := by
  unfold fpF; rw [if_pos (by omega), show k * 2 / 2 = k by omega]
theorem fpF_odd (q : Nat → Nat × Nat) (k : Nat) : fpF q (k * 2 + 1) = .int .u64 ((q k).2 : Nat) := by
  unfold fpF; rw [if_neg (by omega), show (k * 2 + 1) / 2 = k by omega]
theorem fpF_set (q : Nat → Nat × Nat) (k u v j : Nat) : fpF (fun i => if i = k then (u, v) else q i) j = if j = k * 2 + 1 then .int .u64 (v : Nat) else if j = k * 2 then .int .u64 (u : Nat) else fpF q j := by
  unfold fpF
  by_cases h1 : j = k * 2 + 1
  · subst h1
    have e : (k * 2 + 1) / 2 = k := by omega
    have e2 : (k * 2 + 1) % 2 = 1 := by omega
    simp [e, e2]
  · by_cases h2 : j = k * 2
    · subst h2
      have e : k * 2 / 2 = k := by omega
      have e2 : k * 2 % 2 = 0 := by omega
      simp [e, e2]
    · have e : j / 2 ≠ k := by omega
      simp [h1, h2, e]
theorem fp_store {w : World} {p N k u v : Nat} {q : Nat → Nat × Nat} (h : w.rowIs p 36 N (fpF q)) :
    ((w.setCell ⟨p, k * 2, none⟩ (.int .u64 (u : Nat))).setCell ⟨p, k * 2 + 1, none⟩ (.int .u64 (v : Nat))).rowIs p 36 N (fpF (fun i => if i = k then (u, v) else q i)) :=
  ((h.set (k * 2) _).set (k * 2 + 1) _).congr (fun j _ => (fpF_set q k u v j).symm)
theorem fp_cellA {w : World} {p N k : Nat} {q : Nat → Nat × Nat} (h : w.rowIs p 36 (N * 2) (fpF q)) (hk : k < N) : w.cell? ⟨p, k * 2, none⟩ = some (.int .u64 ((q k).1 : Nat)) := by
  rw [h.cell (by omega), fpF_even]
theorem fp_cellB {w : World} {p N k : Nat} {q : Nat → Nat × Nat} (h : w.rowIs p 36 (N * 2) (fpF q)) (hk : k < N) : w.cell? ⟨p, k * 2 + 1, none⟩ = some (.int .u64 ((q k).2 : Nat)) := by
  rw [h.cell (by omega), fpF_odd]

/-- make([]fingerprint, n). -/
theorem run_make_fp (n : Nat) (hn : n ≤ 1000000) (w : World) :
    (Instr.makeSlice 29 (.int .i64 (n : Int)) (.int .i64 (n : Int))).run Yba.prog w = .ok (.slice (some ⟨w.heap.size, 0, none⟩) n n) (w.alloc (.cells (madeCells #[.int .u64 0, .int .u64 0] (n * 2)) 36)) := by
  obtain ⟨i0, hi, hz0, hz1, hz2⟩ := info_parts info36
  have hr := run_make (P := Yba.prog) w 29 36 i0 _ Yba.underlying29 hi hz0 .i64 .i64 n n (by omega) (Int.le_refl _) (by rw [hz2]; omega) (by omega)
  simp only [Int.toNat_natCast, hz1] at hr
  exact hr
theorem run_make_fp1 (n : Nat) (hn : n + 1 ≤ 1000000) (w : World) :
    (Instr.makeSlice 29 (.int .i64 ((n : Int) + 1)) (.int .i64 ((n : Int) + 1))).run Yba.prog w = .ok (.slice (some ⟨w.heap.size, 0, none⟩) (n + 1) (n + 1)) (w.alloc (.cells (madeCells #[.int .u64 0, .int .u64 0] ((n + 1) * 2)) 36)) := run_make_fp (n + 1) hn w
theorem fp_made (w : World) (n : Nat) : (w.alloc (.cells (madeCells #[.int .u64 0, .int .u64 0] (n * 2)) 36)).rowIs w.heap.size 36 (n * 2) (fpF (fun _ => (0, 0))) := by
  refine ⟨_, heap_alloc_new _ _, size_madeCells _ _, fun i hi => ?_⟩
  have : i % 2 = 0 ∨ i % 2 = 1 := by omega
  rcases this with h | h <;> simp [madeCells, hi, fpF, h]

def pfQ (a b : Nat) (l : List Nat) (k : Nat) (j : Nat) : Nat × Nat := if j ≤ k then (pf a l j, pf b l j) else (0, 0)

theorem pfQ_zero (a b : Nat) (l : List Nat) : pfQ a b l 0 = fun _ => (0, 0) := by
  funext j
  unfold pfQ
  by_cases h : j ≤ 0
  · rw [if_pos h, show j = 0 by omega, pf_zero, pf_zero]
  · rw [if_neg h]
theorem pfQ_succ (a b : Nat) (l : List Nat) (k : Nat) (h : k < l.length) :
    pfQ a b l (k + 1) = fun i => if i = k + 1 then (am (mm (pf a l k) a) (l.getD k 0 + 1), am (mm (pf b l k) b) (l.getD k 0 + 1)) else pfQ a b l k i := by
  funext j
  unfold pfQ
  by_cases h1 : j = k + 1
  · rw [if_pos h1, if_pos (by omega), h1, pf_succ _ _ _ h, pf_succ _ _ _ h]
  · rw [if_neg h1]
    by_cases h2 : j ≤ k
    · rw [if_pos h2, if_pos (by omega)]
    · rw [if_neg h2, if_neg (by omega)]
theorem fpF_congr {N : Nat} {q q' : Nat → Nat × Nat} (h : ∀ i, i < N → q i = q' i) (j : Nat) (hj : j < N * 2) : fpF q j = fpF q' j := by
  unfold fpF; rw [h (j / 2) (by omega)]

set_option maxHeartbeats 400000 in
theorem prefixes_any (B a b : Nat) (v2 : Value) (at0 : Option Addr) (len cap : Nat) (l : List Nat) (w : World) (hB : w.heap[B]? = some (.cells #[.int .u64 a, .int .u64 b, v2] 54 (0, 0))) (la : a < P61) (lb : b < P61)
    (hlen : len ≤ 100000) (hl : l.length = len) (hx : ∀ x ∈ l, x < 65536)
    (hin : 0 < len → ∃ b off, at0 = some ⟨b, off, none⟩ ∧ b < w.heap.size ∧ ∀ i, i < len → w.cell? ⟨b, off + i, none⟩ = some (.int .i32 (l.getD i 0 : Nat))) :
    Calls Yba.prog 13 #[.pointer (some ⟨B, 0, none⟩), .slice at0 len cap] w fun e w' => e = .returned (.slice (some ⟨w.heap.size, 0, none⟩) (len + 1) (len + 1)) ∧ w'.rowIs w.heap.size 36 ((len + 1) * 2) (fpF (fun k => (pf a l k, pf b l k))) ∧ Below w.heap.size w w' := by
  have hmk := fun w => run_make_fp1 len (by omega) w
  have HI : Hid (0 < len → ∃ b off, at0 = some ⟨b, off, none⟩ ∧ b < w.heap.size ∧ ∀ i, i < len → w.cell? ⟨b, off + i, none⟩ = some (.int .i32 (l.getD i 0 : Nat))) := hin
  have HX : Hid (∀ x ∈ l, x < 65536) := hx
  have HL : Hid (l.length = len) := hl
  have HO : Hid (w.heap[B]? = some (.cells #[.int .u64 a, .int .u64 b, v2] 54 (0, 0))) := hB
  have lB := lt_of_heap hB
  clear hin hx hl hB
  go_enter Yba.func13, Yba.ntmps13
  go_wp2
  go_loopw [14] (fun i wr => ∃ k : Nat, k ≤ len ∧ i = .int .i64 k ∧ wr.rowIs w.heap.size 36 ((len + 1) * 2) (fpF (pfQ a b l k)) ∧ Below w.heap.size w wr) (fun i _ => len - (intOf i).toNat)
  case atStart => exact ⟨0, Nat.zero_le _, rfl, (fp_made w (len + 1)).congr (fun i _ => by rw [pfQ_zero]), (Below.refl _ _).alloc (Nat.le_refl _) _⟩
  case round =>
    obtain ⟨k, hk, rfl, hrow, hbel⟩ := hrel
    by_cases hlt : (k : Int) < len
    · obtain ⟨bi, off, rfl, hb, hc⟩ := HI.out (by omega)
      have ck : wr.cell? ⟨bi, off + k, none⟩ = some (.int .i32 (l.getD k 0 : Nat)) := (hbel.cell (by exact hb)).trans (hc k (by omega))
      have p0 := fp_cellA hrow (k := k) (by omega)
      have p1 := fp_cellB hrow (k := k) (by omega)
      have e0 : pfQ a b l k k = (pf a l k, pf b l k) := by simp [pfQ]
      rw [e0] at p0 p1
      have hv : l.getD k 0 < 65536 := by
        rw [List.getD_eq_getElem?_getD, List.getElem?_eq_getElem (by rw [HL.out]; omega)]
        exact HX.out _ (List.getElem_mem _)
      obtain ⟨v, hvv⟩ : ∃ v, v = l.getD k 0 := ⟨_, rfl⟩
      rw [← hvv] at ck hv
      have HV : Hid (v = l.getD k 0) := hvv
      have HR : Hid (wr.rowIs w.heap.size 36 ((len + 1) * 2) (fpF (pfQ a b l k))) := hrow
      have HB : Hid (Below w.heap.size w wr) := hbel
      clear hrow hbel hc hvv e0
      go_wp2_with fail
      refine (extend_any B v2 a b _ _ v wr (by rw [HB.out.block _ lB]; exact HO.out) la lb (pf_lt _ _ _) (pf_lt _ _ _) hv).mono ?_
      rintro e w2 ⟨rfl, hb2⟩
      have hrow2 : w2.rowIs w.heap.size 36 ((len + 1) * 2) (fpF (pfQ a b l k)) := HR.out.of_block (hb2.block _ HR.out.lt)
      have s0 := hrow2.cell (i := (k + 1) * 2) (by omega)
      have s1 := hrow2.cell (i := (k + 1) * 2 + 1) (by omega)
      have s2 := hrow2.frozen ((k + 1) * 2)
      have s3 := hrow2.frozen ((k + 1) * 2 + 1)
      have HR2 : Hid (w2.rowIs w.heap.size 36 ((len + 1) * 2) (fpF (pfQ a b l k))) := hrow2
      have HB2 : Hid (Below w.heap.size w w2) := HB.out.trans (hb2.mono HB.out.size)
      clear hrow2 hb2
      go_wp2
      go_roundw
      case rel =>
        refine ⟨k + 1, by omega, by go_num, (fp_store HR2.out).congr (fun j _ => ?_), (HB2.out.setCell (Nat.le_refl _) _).setCell (Nat.le_refl _) _⟩
        rw [pfQ_succ a b l k (by rw [HL.out]; omega), ← HV.out]
      case measure => simp [intOf]; omega
    · go_wp2
      go_ret
      exact ⟨rfl, hrow.congr (fun j hj => fpF_congr (N := len + 1) (fun i hi => by simp [pfQ]; omega) j hj), hbel⟩

#print axioms prefixes_any
end Go.Proofs.Ybulkese
