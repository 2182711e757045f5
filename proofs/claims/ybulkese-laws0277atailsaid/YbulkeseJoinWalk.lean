/-
  THE WALK OF LawS0277BJoin, where the slice has at most 1024 elements.
-/
import Derived.Test.YbulkeseSliceWalk
namespace Go.Proofs.Ybulkese
open Go.RowKit
attribute [local go_sem ↓] Go.wp_at_zero Go.wp_at_succ

theorem keep_six {w1 w2 w3 w4 w5 w6 : World} {B g g4 i0 i1 i2 i3 : Nat} {v0 v1 v2 v3 v4 v5 : Value} (hbut : But B g4 w5.drew w6)
    (H : B < w1.heap.size ∧ w1.heap.size < w2.heap.size ∧ w2.heap.size < w4.heap.size ∧ (g4 = g ∨ w3.heap.size ≤ g4) ∧ g < w1.heap.size ∧ w2.heap.size < w3.heap.size ∧ g4 < w4.heap.size) (h5 : w4.heap.size < w5.heap.size)
    (S : w5.cell? ⟨w2.heap.size, i0, none⟩ = some v0 ∧ w5.cell? ⟨w2.heap.size, i1, none⟩ = some v1 ∧ w5.cell? ⟨w2.heap.size, i2, none⟩ = some v2 ∧ w5.cell? ⟨w2.heap.size, i3, none⟩ = some v3 ∧ w5.cell? ⟨w4.heap.size, 0, none⟩ = some v4 ∧ w5.cell? ⟨w4.heap.size, 1, none⟩ = some v5) :
    w6.cell? ⟨w2.heap.size, i0, none⟩ = some v0 ∧ w6.cell? ⟨w2.heap.size, i1, none⟩ = some v1 ∧ w6.cell? ⟨w2.heap.size, i2, none⟩ = some v2 ∧ w6.cell? ⟨w2.heap.size, i3, none⟩ = some v3 ∧ w6.cell? ⟨w4.heap.size, 0, none⟩ = some v4 ∧ w6.cell? ⟨w4.heap.size, 1, none⟩ = some v5 := by
  obtain ⟨h1, h2, h3, h4, h6, h7, h8⟩ := H
  obtain ⟨s0, s1, s2, s3, s4, s5⟩ := S
  have k2 : ∀ i, w6.cell? ⟨w2.heap.size, i, none⟩ = w5.cell? ⟨w2.heap.size, i, none⟩ := fun i => hbut.cell (p := ⟨w2.heap.size, i, none⟩) (by show w2.heap.size < w5.heap.size; omega) (by show w2.heap.size ≠ B; omega) (by show w2.heap.size ≠ g4; omega)
  have k4 : ∀ i, w6.cell? ⟨w4.heap.size, i, none⟩ = w5.cell? ⟨w4.heap.size, i, none⟩ := fun i => hbut.cell (p := ⟨w4.heap.size, i, none⟩) (by show w4.heap.size < w5.heap.size; omega) (by show w4.heap.size ≠ B; omega) (by show w4.heap.size ≠ g4; omega)
  exact ⟨by rw [k2]; exact s0, by rw [k2]; exact s1, by rw [k2]; exact s2, by rw [k2]; exact s3, by rw [k4]; exact s4, by rw [k4]; exact s5⟩

theorem keep_two {w2 w w6 w7 : World} {B g6 i0 i1 : Nat} {v0 v1 : Value} (hbut : But B g6 w6.drew w7) (H : w2.heap.size ≠ B ∧ w2.heap.size ≠ g6 ∧ w.heap.size ≤ g6) (h6 : w2.heap.size < w6.heap.size)
    (S : w6.cell? ⟨w2.heap.size, i0, none⟩ = some v0 ∧ w6.cell? ⟨w2.heap.size, i1, none⟩ = some v1) : w7.cell? ⟨w2.heap.size, i0, none⟩ = some v0 ∧ w7.cell? ⟨w2.heap.size, i1, none⟩ = some v1 := by
  have k2 : ∀ i, w7.cell? ⟨w2.heap.size, i, none⟩ = w6.cell? ⟨w2.heap.size, i, none⟩ := fun i => hbut.cell (p := ⟨w2.heap.size, i, none⟩) h6 H.1 H.2.1
  exact ⟨by rw [k2]; exact S.1, by rw [k2]; exact S.2⟩

/-- join of a prefix and what lies between. -/
theorem join_pf (B g cap a b n F K T : Nat) (l : List Nat) (w : World) (hF : Fpr w B g cap a b n) (la : a < P61) (lb : b < P61) (hn : n < 1000000) (hK : K < 1000000) (hT : T = F + K) (hFK : F + K ≤ l.length) :
    Calls Yba.prog 15 #[.pointer (some ⟨B, 0, none⟩), .agg #[.int .u64 (pf a l F : Nat), .int .u64 (pf b l F : Nat)], .agg #[.int .u64 (pf a (l.drop F) K : Nat), .int .u64 (pf b (l.drop F) K : Nat)], .int .i64 K] w fun e w' =>
      e = .returned (.agg #[.int .u64 (pf a l T : Nat), .int .u64 (pf b l T : Nat)]) ∧
      ∃ g' cap' n', Fpr w' B g' cap' a b n' ∧ n' < 1000000 ∧ (g' = g ∨ w.heap.size ≤ g') ∧ But B g w w' := by
  subst hT
  refine (join_any B g cap a b n K _ _ _ _ w hF la lb hn hK (pf_lt _ _ _) (pf_lt _ _ _) (pf_lt _ _ _) (pf_lt _ _ _)).mono ?_
  rintro e w' ⟨rfl, h⟩
  refine ⟨?_, h⟩
  have e1 := join_law a l F (F + K) (by omega) (by omega)
  have e2 := join_law b l F (F + K) (by omega) (by omega)
  rw [show F + K - F = K by omega] at e1 e2
  simp only [e1, e2]

set_option maxHeartbeats 1000000 in
set_option maxRecDepth 100000 in
theorem join_walk (a b x y : Nat) (at0 : Option Addr) (len cap : Nat) (l : List Nat) (w : World) (ha : (a : Int) < 18446744073709551616) (hb : (b : Int) < 18446744073709551616)
    (hlen : (len : Int) ≤ 1024) (hl : l.length = len) (hz : ∀ x ∈ l, x < 65536)
    (hin : 0 < len → ∃ b off, at0 = some ⟨b, off, none⟩ ∧ b < w.heap.size ∧ ∀ i, i < len → w.cell? ⟨b, off + i, none⟩ = some (.int .u16 (l.getD i 0 : Nat))) :
    Calls Yba.prog 6 #[.int .u64 a, .int .u64 b, .slice at0 len cap, .int .u64 x, .int .u64 y] w fun e w' => e = .returned (.bool true) ∧ Below w.heap.size w w' := by
  obtain ⟨F, hF⟩ : ∃ F, F = x % (len + 1) := ⟨_, rfl⟩
  have hF1 : F ≤ len := by have := Nat.mod_lt x (show 0 < len + 1 by omega); omega
  have hFe : (x : Int) % ((len : Int) + 1) = F := by rw [show ((len : Int) + 1) = ((len + 1 : Nat) : Int) from rfl, ← Int.natCast_emod, ← hF]
  obtain ⟨K, hK⟩ : ∃ K, K = y % (len + 1 - F) := ⟨_, rfl⟩
  have hK1 : F + K ≤ len := by have := Nat.mod_lt y (show 0 < len + 1 - F by omega); omega
  have hKe : (y : Int) % ((len : Int) + 1 - F) = K := by
    have : ((len : Int) + 1 - F) = ((len + 1 - F : Nat) : Int) := by omega
    rw [this, ← Int.natCast_emod, ← hK]
  have hd : (F : Int) + K - F = K := by omega
  clear hF hK
  have HFe : Hid ((x : Int) % ((len : Int) + 1) = F) := hFe
  have HKe : Hid ((y : Int) % ((len : Int) + 1 - F) = K) := hKe
  have HD : Hid ((F : Int) + K - F = K) := hd
  clear hFe hKe hd
  have HIn : Hid (0 < len → ∃ b off, at0 = some ⟨b, off, none⟩ ∧ b < w.heap.size ∧ ∀ i, i < len → w.cell? ⟨b, off + i, none⟩ = some (.int .u16 (l.getD i 0 : Nat))) := hin
  have HZ : Hid (∀ x ∈ l, x < 65536) := hz
  have HL : Hid (l.length = len) := hl
  have HA : Hid ((a : Int) < 18446744073709551616) := ha
  have HBb : Hid ((b : Int) < 18446744073709551616) := hb
  clear hin hz hl ha hb
  have HLen : Hid ((len : Int) ≤ 1024) := hlen
  have hlen' : ¬ (1024 : Int) < len := by omega
  have HFl : Hid ((F : Int) ≤ len) := by show (F : Int) ≤ len; omega
  have HFK : Hid ((F : Int) + K ≤ len) := by show (F : Int) + K ≤ len; omega
  clear hlen hF1 hK1
  go_enter Yba.func6, Yba.ntmps6
  go_wp2_with fail
  refine (new_any a b w HA.out HBb.out).mono ?_
  rintro e w1 ⟨B, g, A, Z, rfl, hF0, lA, lZ, lB, lg, hb1⟩
  have HF1 : Hid (Fpr w1 B g 1 A Z 0) := hF0
  have HB1 : Hid (Below w.heap.size w w1) := hb1
  clear hF0 hb1
  go_wp2_with fail
  refine (ids_any at0 len cap l w1 (by omega) HL.out HZ.out (fun h => by
    obtain ⟨b, off, e, h1, h2⟩ := HIn.out h
    exact ⟨b, off, e, Nat.lt_of_lt_of_le h1 HB1.out.size, fun i hi => (HB1.out.cell (by exact h1)).trans (h2 i hi)⟩)).mono ?_
  rintro e w2 ⟨rfl, hids, hb2⟩
  have HIds : Hid (w2.rowIs w1.heap.size 21 len (fun j => .int .i32 (l.getD j 0 : Nat))) := hids
  have HB2 : Hid (Below w1.heap.size w1 w2) := hb2
  clear hids hb2
  have hFe := HFe.out
  have hKe := HKe.out
  have q1 : (len : Int) ≤ 1024 := HLen.out
  have q2 : (F : Int) ≤ len := HFl.out
  have q3 : (F : Int) + K ≤ len := HFK.out
  clear hlen'
  go_wp2_with fail
  have HF2 : Hid (Fpr w2 B g 1 A Z 0) := HF1.out.below' HB2.out
  refine (prefixes_any B A Z _ (some ⟨w1.heap.size, 0, none⟩) len len l w2 HF2.out.obj lA lZ (by omega) HL.out HZ.out (fun _ => ⟨w1.heap.size, 0, rfl, HIds.out.lt, fun i hi => by rw [Nat.zero_add]; exact HIds.out.cell hi⟩)).mono ?_
  rintro e w3 ⟨rfl, hpre, hb3⟩
  have HF3 : Hid (Fpr w3 B g 1 A Z 0) := HF2.out.below' hb3
  have HIds3 : Hid (w3.rowIs w1.heap.size 21 len (fun j => .int .i32 (l.getD j 0 : Nat))) := HIds.out.of_block (hb3.block _ HIds.out.lt)
  have HPre : Hid (w3.rowIs w2.heap.size 36 ((len + 1) * 2) (fpF (fun k => (pf A l k, pf Z l k)))) := hpre
  have HB3 : Hid (Below w2.heap.size w2 w3) := hb3
  have sB : B < w1.heap.size := HF1.out.ltB
  have sg : g < w1.heap.size := HF1.out.ltg
  have s12 : w1.heap.size ≤ w2.heap.size := HB2.out.size
  have s23 : w2.heap.size ≤ w3.heap.size := HB3.out.size
  have s1 : w1.heap.size < w2.heap.size := HIds.out.lt
  clear hpre hb3
  go_wp2_with fail
  refine (between_pf B g 1 A Z 0 w2.heap.size F K len l _ _ rfl rfl w3 HF3.out lA lZ (by omega) (by omega) HL.out (by omega) (by omega) (by omega) (len + 1) HPre.out).mono ?_
  rintro e w4 ⟨rfl, g4, cap4, n4, hF4, hn4, hg4, hbut⟩
  have HF4 : Hid (Fpr w4 B g4 cap4 A Z n4) := hF4
  have HIds4 : Hid (w4.rowIs w1.heap.size 21 len (fun j => .int .i32 (l.getD j 0 : Nat))) := HIds3.out.of_block (hbut.block _ HIds3.out.lt (by omega) (by omega))
  have HB4 : Hid (Below w.heap.size w w4) := ((HB1.out.trans (HB2.out.mono HB1.out.size)).trans (HB3.out.mono (by have := HB1.out.size; omega))).trans (hbut.below (by have := HB1.out.size; omega) lB lg)
  have HPre4 : Hid (w4.rowIs w2.heap.size 36 ((len + 1) * 2) (fpF (fun k => (pf A l k, pf Z l k)))) := HPre.out.of_block (hbut.block _ HPre.out.lt (by omega) (by omega))
  have HgB : Hid (B < w1.heap.size ∧ w1.heap.size < w2.heap.size ∧ w2.heap.size < w4.heap.size ∧ (g4 = g ∨ w3.heap.size ≤ g4) ∧ g < w1.heap.size ∧ w2.heap.size < w3.heap.size ∧ g4 < w4.heap.size) := ⟨sB, s1, Nat.lt_of_lt_of_le HPre.out.lt hbut.size, hg4, sg, HPre.out.lt, hF4.ltg⟩
  clear hF4 hbut hg4
  clear s12 s23 s1 sB sg
  go_upto_region 10 with fail
  clear hFe hKe
  have z1 : (0 : Int) ≤ F := by omega
  obtain ⟨T, hT⟩ : ∃ T : Nat, (F : Int) + K = T := ⟨F + K, rfl⟩
  rw [hT]
  have HT : Hid ((F : Int) + K = T) := hT
  have z2 : (F : Int) ≤ T := by omega
  have z3 : (T : Int) ≤ len := by omega
  have HTe : Hid (T = F + K) := by show T = F + K; omega
  have HKl : Hid ((K : Int) ≤ 1024) := by show (K : Int) ≤ 1024; omega
  have HKn : Hid (F + K ≤ len) := by show F + K ≤ len; omega
  have hw1 : IntKind.i64.wrap ((T : Int) - F) = K := by rw [IntKind.wrap_i64]; omega
  have i1 : (F : Int) < (len : Int) + 1 := by omega
  have i3 : (0 : Int) ≤ T := by omega
  have i4 : (T : Int) < (len : Int) + 1 := by omega
  obtain ⟨w5, hw5⟩ : ∃ w5, w5 = w4.alloc (.cells #[.int .u64 (pf A (l.drop F) K : Nat), .int .u64 (pf Z (l.drop F) K : Nat)] 36) := ⟨_, rfl⟩
  rw [← hw5]
  have HF5 : Hid (Fpr w5 B g4 cap4 A Z n4) := by rw [hw5]; exact HF4.out.below' ((Below.refl _ _).alloc (Nat.le_refl _) _)
  have HB5 : Hid (Below w.heap.size w w5) := by rw [hw5]; exact HB4.out.alloc HB4.out.size _
  have g5 : w5.heap[w4.heap.size]? = some (.cells #[.int .u64 (pf A (l.drop F) K : Nat), .int .u64 (pf Z (l.drop F) K : Nat)] 36 (0, 0)) := by rw [hw5]; exact heap_alloc_new w4 _
  have pre5 : w5.rowIs w2.heap.size 36 ((len + 1) * 2) (fpF (fun k => (pf A l k, pf Z l k))) := by rw [hw5]; exact HPre4.out.alloc _
  have m0 : w5.cell? ⟨w4.heap.size, 0, none⟩ = some (.int .u64 (pf A (l.drop F) K : Nat)) := cell_of_block g5 0
  have m1 : w5.cell? ⟨w4.heap.size, 1, none⟩ = some (.int .u64 (pf Z (l.drop F) K : Nat)) := cell_of_block g5 1
  have y0 := fp_cellA pre5 (k := F) (by omega)
  have y1 := fp_cellB pre5 (k := F) (by omega)
  have x0 := fp_cellA pre5 (k := T) (by omega)
  have x1 := fp_cellB pre5 (k := T) (by omega)
  dsimp only at x0 x1 y0 y1
  have HPre5 : Hid (w5.rowIs w2.heap.size 36 ((len + 1) * 2) (fpF (fun k => (pf A l k, pf Z l k)))) := pre5
  have HS5 : Hid (w4.heap.size < w5.heap.size) := lt_of_heap g5
  clear hT q3 q1 q2 hw5 g5 pre5
  go_region_held3 (fun w' => w'.cell? ⟨w2.heap.size, F * 2, none⟩ = some (.int .u64 (pf A l F : Nat)) ∧ w'.cell? ⟨w2.heap.size, F * 2 + 1, none⟩ = some (.int .u64 (pf Z l F : Nat)) ∧ w'.cell? ⟨w2.heap.size, T * 2, none⟩ = some (.int .u64 (pf A l T : Nat)) ∧ w'.cell? ⟨w2.heap.size, T * 2 + 1, none⟩ = some (.int .u64 (pf Z l T : Nat)) ∧ w'.cell? ⟨w4.heap.size, 0, none⟩ = some (.int .u64 (pf A (l.drop F) K : Nat)) ∧ w'.cell? ⟨w4.heap.size, 1, none⟩ = some (.int .u64 (pf Z (l.drop F) K : Nat)))
    (first | exact ⟨y0, y1, x0, x1, m0, m1⟩ | exact keep_six hbut HgB.out HS5.out ⟨y0, y1, x0, x1, m0, m1⟩)
    (first
      | (go_at_call 15; refine (join_pf B g4 cap4 A Z n4 F K T l _ (HF5.out.below' ((Below.refl _ _).drew)) lA lZ hn4 (by have := HKl.out; omega) HTe.out (by have := HKn.out; have := HL.out; omega)).mono ?_; rintro e w6 ⟨rfl, g6, cap6, n6, hF6, hn6, hg6, hbut⟩))
  have pre6 : w6.rowIs w2.heap.size 36 ((len + 1) * 2) (fpF (fun k => (pf A l k, pf Z l k))) := HPre5.out.of_block (hbut.block _ (by exact HPre5.out.lt) (by have := HgB.out; omega) (by have := HgB.out; omega))
  have t0 := fp_cellA pre6 (k := T) (by have := HTe.out; have := HKn.out; omega)
  have t1 := fp_cellB pre6 (k := T) (by have := HTe.out; have := HKn.out; omega)
  dsimp only at t0 t1
  have HF6 : Hid (Fpr w6 B g6 cap6 A Z n6) := hF6
  have HPre6 : Hid (w6.rowIs w2.heap.size 36 ((len + 1) * 2) (fpF (fun k => (pf A l k, pf Z l k)))) := pre6
  have HB6 : Hid (Below w.heap.size w w6) := HB5.out.drew.trans (hbut.below (by show w.heap.size ≤ w5.heap.size; exact HB5.out.size) lB (by have := HgB.out; have := HB1.out.size; have := HB2.out.size; have := HB3.out.size; omega))
  have HG6 : Hid (w2.heap.size ≠ B ∧ w2.heap.size ≠ g6 ∧ w.heap.size ≤ g6) := by
    have h1 := HgB.out
    have h2 := HB1.out.size
    have h3 := HB2.out.size
    have h4 := HB3.out.size
    have h5 := HS5.out
    have h6 : g6 = g4 ∨ w5.heap.size ≤ g6 := hg6
    exact ⟨by omega, by omega, by omega⟩
  have HS6 : Hid (w2.heap.size < w6.heap.size) := pre6.lt
  clear pre6 hF6 hbut hg6 x0 x1 y0 y1 m0 m1 hw1
  go_wp2
  go_region_held3 (fun w' => w'.cell? ⟨w2.heap.size, T * 2, none⟩ = some (.int .u64 (pf A l T : Nat)) ∧ w'.cell? ⟨w2.heap.size, T * 2 + 1, none⟩ = some (.int .u64 (pf Z l T : Nat)))
    (first | exact ⟨t0, t1⟩ | exact keep_two hbut7 HG6.out HS6.out ⟨t0, t1⟩)
    (first
      | (go_at_call 14; refine (between_pf B g6 cap6 A Z n6 w2.heap.size 0 T len l _ _ rfl (by omega) _ (HF6.out.below' ((Below.refl _ _).drew)) lA lZ hn6 (by have := HLen.out; omega) HL.out (by have := HTe.out; have := HKn.out; omega) HG6.out.1 HG6.out.2.1 _ (by exact HPre6.out)).mono ?_; rintro e w7 ⟨rfl, g7, cap7, n7, hF7, hn7, hg7, hbut7⟩; simp only [List.drop_zero]))
  have HB7 : Hid (Below w.heap.size w w7) := HB6.out.drew.trans (hbut7.below (by show w.heap.size ≤ w6.heap.size; exact HB6.out.size) lB HG6.out.2.2)
  clear hF7 hbut7 hg7
  go_wp2
  go_ret
  exact ⟨rfl, HB7.out⟩

#print axioms join_walk
end Go.Proofs.Ybulkese
