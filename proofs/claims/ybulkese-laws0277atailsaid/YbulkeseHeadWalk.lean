/-
  THE WALK OF LawS0277AHead, where there are at most 1024 ids and 1 to 256 spans.
-/
import Derived.Test.YbulkeseBuild
namespace Go.Proofs.Ybulkese
open Go.RowKit
attribute [local go_sem ↓] Go.wp_at_zero Go.wp_at_succ

theorem keep_head {w3 w4 : World} {B g RB gr i j : Nat} {v0 v1 v2 v3 v4 v5 v6 : Value} (hbut : But B g w3.drew w4) (H : RB < w3.heap.size ∧ RB ≠ B ∧ RB ≠ g ∧ gr < w3.heap.size ∧ gr ≠ B ∧ gr ≠ g)
    (S : w3.cell? ⟨RB, 0, none⟩ = some v0 ∧ w3.cell? ⟨RB, 1, none⟩ = some v1 ∧ w3.cell? ⟨RB, 2, none⟩ = some v2 ∧ w3.cell? ⟨RB, 3, none⟩ = some v3 ∧ w3.cell? ⟨RB, 4, none⟩ = some v4 ∧ w3.cell? ⟨gr, i, none⟩ = some v5 ∧ w3.cell? ⟨gr, j, none⟩ = some v6) :
    w4.cell? ⟨RB, 0, none⟩ = some v0 ∧ w4.cell? ⟨RB, 1, none⟩ = some v1 ∧ w4.cell? ⟨RB, 2, none⟩ = some v2 ∧ w4.cell? ⟨RB, 3, none⟩ = some v3 ∧ w4.cell? ⟨RB, 4, none⟩ = some v4 ∧ w4.cell? ⟨gr, i, none⟩ = some v5 ∧ w4.cell? ⟨gr, j, none⟩ = some v6 := by
  have k : ∀ b o, b < w3.heap.size → b ≠ B → b ≠ g → w4.cell? ⟨b, o, none⟩ = w3.cell? ⟨b, o, none⟩ := fun b o h1 h2 h3 => hbut.cell (p := ⟨b, o, none⟩) h1 h2 h3
  obtain ⟨a1, a2, a3, b1, b2, b3⟩ := H
  obtain ⟨s0, s1, s2, s3, s4, s5, s6⟩ := S
  exact ⟨by rw [k _ _ a1 a2 a3]; exact s0, by rw [k _ _ a1 a2 a3]; exact s1, by rw [k _ _ a1 a2 a3]; exact s2, by rw [k _ _ a1 a2 a3]; exact s3, by rw [k _ _ a1 a2 a3]; exact s4, by rw [k _ _ b1 b2 b3]; exact s5, by rw [k _ _ b1 b2 b3]; exact s6⟩

set_option maxRecDepth 100000 in
set_option maxHeartbeats 1000000 in
theorem head_walk (ba bb nq : Nat) (at0 at1 : Option Addr) (L cap0 n cap1 : Nat) (l : List Nat) (S : List (Nat × Nat)) (w : World)
    (hL : (L : Int) ≤ 1024) (hl : l.length = L) (hx : ∀ x ∈ l, x < 65536)
    (hin : 0 < L → ∃ b off, at0 = some ⟨b, off, none⟩ ∧ b < w.heap.size ∧ ∀ i, i < L → w.cell? ⟨b, off + i, none⟩ = some (.int .u16 (l.getD i 0 : Nat)))
    (hn : (n : Int) ≤ 256) (hn0 : 0 < n) (hS : S.length = n) (hb16 : ∀ x ∈ S, x.1 < 65536 ∧ x.2 < 65536)
    (hin1 : ∃ b off, at1 = some ⟨b, off, none⟩ ∧ b < w.heap.size ∧ ∀ i, i < n → w.cell? ⟨b, off + i * 2, none⟩ = some (.int .u16 ((S.getD i (0, 0)).1 : Nat)) ∧ w.cell? ⟨b, off + (i * 2 + 1), none⟩ = some (.int .u16 ((S.getD i (0, 0)).2 : Nat))) :
    Calls Yba.prog 3 #[.int .u64 ba, .int .u64 bb, .slice at0 L cap0, .slice at1 n cap1, .int .u32 nq] w fun e w' => e = .returned (.bool true) ∧ Below w.heap.size w w' := by
  have C := build_any ba bb at0 at1 L cap0 n cap1 l S w hL hl hx hin hn hn0 hS hb16 hin1
  have HC : Hid (Calls Yba.prog 7 #[.int .u64 ba, .int .u64 bb, .slice at0 L cap0, .slice at1 n cap1] w fun e w' => BuildPost ba bb L n l S w e w') := C
  have HSh : Hid (Shape n L l (flTo L S l n) (spF L S) (spT L S) (spA L S l)) := by have := shape_of L S l hl (by omega) (by omega) (by omega); rw [hS] at this; exact this
  have HAl : Hid (spA L S l n ≤ 262144) := HSh.out.flle
  have g1 : ¬ (1024 : Int) < L := by omega
  have g2 : ¬ (256 : Int) < n := by omega
  have g3 : ((n : Int) == 0) = false := by simp; omega
  clear C hin hin1 hb16 hS hx hl hL hn hn0
  go_enter Yba.func3, Yba.ntmps3
  go_wp2_with fail
  refine HC.out.mono ?_
  rintro e w2 ⟨TX, B, g, tp, gs, ga, gp, gf, cf, gr, cr, A, Z, rfl, _, _, lA, lZ, hB⟩
  have HBu : Hid (Built w w2 l S L n TX B g tp gs ga gp gf gr A Z) := hB
  clear hB HC
  obtain ⟨tot, htot⟩ : ∃ tot, tot = spA L S l n := ⟨_, rfl⟩
  rw [← htot] at HAl ⊢
  have HTot : Hid (tot = spA L S l n) := htot
  obtain ⟨k, hk⟩ : ∃ k, k = nq % (tot + 1) := ⟨_, rfl⟩
  have hk1 : k ≤ tot := by have := Nat.mod_lt nq (show 0 < tot + 1 by omega); omega
  have rk : (nq : Int) % ((tot : Int) + 1) = k := by rw [show ((tot : Int) + 1) = ((tot + 1 : Nat) : Int) from rfl, ← Int.natCast_emod, ← hk]
  have q1 : (tot : Int) ≤ 262144 := by have := HAl.out; omega
  have q2 : (k : Int) ≤ tot := by omega
  have Hk : Hid (k ≤ tot) := hk1
  clear htot hk hk1
  go_wp2
  obtain ⟨w3, hw3⟩ : ∃ w3, w3 = w2.alloc (.cells #[.pointer (some ⟨TX, 0, none⟩), .slice (some ⟨gs, 0, none⟩) n n, .slice (some ⟨ga, 0, none⟩) n n, .slice (some ⟨gp, 0, none⟩) n n, .int .i64 (tot : Nat)] 31) := ⟨_, rfl⟩
  rw [← hw3]
  have hb3 : Below w2.heap.size w2 w3 := by rw [hw3]; exact (Below.refl _ _).alloc (Nat.le_refl _) _
  have hR3 : w3.heap[w2.heap.size]? = some (.cells #[.pointer (some ⟨TX, 0, none⟩), .slice (some ⟨gs, 0, none⟩) n n, .slice (some ⟨ga, 0, none⟩) n n, .slice (some ⟨gp, 0, none⟩) n n, .int .i64 (tot : Nat)] 31 (0, 0)) := by rw [hw3]; exact heap_alloc_new w2 _
  have hlt3 : w2.heap.size < w3.heap.size := lt_of_heap hR3
  clear hw3
  have bu := HBu.out
  have far := bu.far
  have ap := bu.ap
  have kA : w3.cell? ⟨gr, k * 2, none⟩ = some (.int .u64 (pf A (flTo L S l n) k : Nat)) := (hb3.cell (by exact far.2.1)).trans (bu.runA k (by rw [← HTot.out]; exact Hk.out))
  have kB : w3.cell? ⟨gr, k * 2 + 1, none⟩ = some (.int .u64 (pf Z (flTo L S l n) k : Nat)) := (hb3.cell (by exact far.2.1)).trans (bu.runB k (by rw [← HTot.out]; exact Hk.out))
  have r0 : w3.cell? ⟨w2.heap.size, 0, none⟩ = some (.pointer (some ⟨TX, 0, none⟩)) := cell_of_block hR3 0
  have r1 : w3.cell? ⟨w2.heap.size, 1, none⟩ = some (.slice (some ⟨gs, 0, none⟩) n n) := cell_of_block hR3 1
  have r2 : w3.cell? ⟨w2.heap.size, 2, none⟩ = some (.slice (some ⟨ga, 0, none⟩) n n) := cell_of_block hR3 2
  have r3 : w3.cell? ⟨w2.heap.size, 3, none⟩ = some (.slice (some ⟨gp, 0, none⟩) n n) := cell_of_block hR3 3
  have r4 : w3.cell? ⟨w2.heap.size, 4, none⟩ = some (.int .i64 (tot : Nat)) := cell_of_block hR3 4
  have hF3 : Fpr w3.drew B g 1 A Z 0 := (bu.fpr.below' hb3).below' ((Below.refl _ _).drew)
  have hRun3 : Run w3.drew TX B tp gs ga gp n L (L + 1) l (flTo L S l n) (spF L S) (spT L S) (spA L S l) A Z := bu.run.same (fun q => q < w2.heap.size) ap.lt (fun q hq => hb3.block q hq)
  have hAp3 : Apart w3.drew B g TX tp gs ga gp := ⟨by obtain ⟨a1, a2, a3, a4, a5⟩ := ap.lt; exact ⟨Nat.lt_trans a1 hlt3, Nat.lt_trans a2 hlt3, Nat.lt_trans a3 hlt3, Nat.lt_trans a4 hlt3, Nat.lt_trans a5 hlt3⟩, ap.nB, ap.ng⟩
  have HCall : Hid (Calls Yba.prog 8 #[.agg #[.pointer (some ⟨TX, 0, none⟩), .slice (some ⟨gs, 0, none⟩) n n, .slice (some ⟨ga, 0, none⟩) n n, .slice (some ⟨gp, 0, none⟩) n n, .int .i64 (tot : Nat)], .int .i64 k] w3.drew fun e w' =>
      e = .returned (.agg #[.int .u64 (pf A (flTo L S l n) k : Nat), .int .u64 (pf Z (flTo L S l n) k : Nat)]) ∧
      ∃ g' cap' n', Fpr w' B g' cap' A Z n' ∧ n' < 1000000 ∧ (g' = g ∨ w3.drew.heap.size ≤ g') ∧ But B g w3.drew w') :=
    head_any TX B g 1 0 tp gs ga gp n L (L + 1) n n n k l (flTo L S l n) (spF L S) (spT L S) (spA L S l) A Z (tot : Nat) w3.drew hF3 (by omega) lA lZ hRun3 HSh.out hAp3 (by show k ≤ spA L S l n; rw [← HTot.out]; exact Hk.out)
  have HLt : Hid (w2.heap.size < w3.heap.size ∧ w2.heap.size ≠ B ∧ w2.heap.size ≠ g ∧ gr < w3.heap.size ∧ gr ≠ B ∧ gr ≠ g) := ⟨hlt3, Nat.ne_of_gt bu.fpr.ltB, Nat.ne_of_gt bu.fpr.ltg, Nat.lt_trans far.2.1 hlt3, far.2.2.2.2.1, far.2.2.2.2.2⟩
  have HB3 : Hid (Below w.heap.size w w3) := bu.bel.trans (hb3.mono bu.bel.size)
  have HLow : Hid (w.heap.size ≤ B ∧ w.heap.size ≤ g) := bu.low
  obtain ⟨ra, hra⟩ : ∃ ra, ra = pf A (flTo L S l n) k := ⟨_, rfl⟩
  obtain ⟨rz, hrz⟩ : ∃ rz, rz = pf Z (flTo L S l n) k := ⟨_, rfl⟩
  rw [← hra] at kA HCall
  rw [← hrz] at kB HCall
  have i0 : (0 : Int) ≤ k := by omega
  have i1 : (k : Int) < (tot : Int) + 1 := by omega
  have HS : Hid (w3.cell? ⟨w2.heap.size, 0, none⟩ = some (.pointer (some ⟨TX, 0, none⟩)) ∧ w3.cell? ⟨w2.heap.size, 1, none⟩ = some (.slice (some ⟨gs, 0, none⟩) n n) ∧ w3.cell? ⟨w2.heap.size, 2, none⟩ = some (.slice (some ⟨ga, 0, none⟩) n n) ∧ w3.cell? ⟨w2.heap.size, 3, none⟩ = some (.slice (some ⟨gp, 0, none⟩) n n) ∧ w3.cell? ⟨w2.heap.size, 4, none⟩ = some (.int .i64 (tot : Nat)) ∧ w3.cell? ⟨gr, k * 2, none⟩ = some (.int .u64 (ra : Nat)) ∧ w3.cell? ⟨gr, k * 2 + 1, none⟩ = some (.int .u64 (rz : Nat))) := ⟨r0, r1, r2, r3, r4, kA, kB⟩
  clear hra hrz hb3 hR3 hlt3 bu far ap hF3 hRun3 hAp3 r0 r1 r2 r3 r4 kA kB rk g1 g2 g3
  go_region_held3 (fun w' => w'.cell? ⟨w2.heap.size, 0, none⟩ = some (.pointer (some ⟨TX, 0, none⟩)) ∧ w'.cell? ⟨w2.heap.size, 1, none⟩ = some (.slice (some ⟨gs, 0, none⟩) n n) ∧ w'.cell? ⟨w2.heap.size, 2, none⟩ = some (.slice (some ⟨ga, 0, none⟩) n n) ∧ w'.cell? ⟨w2.heap.size, 3, none⟩ = some (.slice (some ⟨gp, 0, none⟩) n n) ∧ w'.cell? ⟨w2.heap.size, 4, none⟩ = some (.int .i64 (tot : Nat)) ∧ w'.cell? ⟨gr, k * 2, none⟩ = some (.int .u64 (ra : Nat)) ∧ w'.cell? ⟨gr, k * 2 + 1, none⟩ = some (.int .u64 (rz : Nat)))
    (first | exact HS.out | exact keep_head hbut4 HLt.out HS.out)
    (first | (go_at_call 8; refine HCall.out.mono ?_; rintro e w4 ⟨rfl, g4, cap4, n4, hF4, hn4, hg4, hbut4⟩))
  have HB4 : Hid (Below w.heap.size w w4) := HB3.out.drew.trans (hbut4.below (by show w.heap.size ≤ w3.heap.size; exact HB3.out.size) HLow.out.1 HLow.out.2)
  clear hF4 hbut4 hg4 hn4
  go_wp2
  go_ret
  exact ⟨rfl, HB4.out⟩

#print axioms head_walk
end Go.Proofs.Ybulkese
