/-
  THE WALK OF LawS0277BSlice, where the slice has at most 1024 elements.
-/
import Derived.Test.YbulkesePrefixes
import Derived.OpenShut
import Derived.Deep.Cut
namespace Go.Proofs.Ybulkese
open Go.RowKit

theorem pf_take (b : Nat) (l : List Nat) (K : Nat) : pf b (l.take K) K = pf b l K := by
  unfold pf; rw [List.take_take, Nat.min_self]

/-- WHAT THE WALK IS TOLD OF A SLICE OF INTEGERS THAT CAME IN (the shell's own words). -/
def IsRow (k : IntKind) (w : World) (a : Option Addr) (len cap : Nat) (zs : List Int) : Prop :=
  (a = none ∧ len = 0 ∧ cap = 0 ∧ zs = []) ∨
  ∃ x, a = some x ∧ len ≤ cap ∧ cap ≤ maxLen ∧ zs.length = cap ∧ (∀ i, i < zs.length → w.cell? (x.add i) = some (.int k (zs.getD i 0))) ∧ ∀ n ∈ zs, (Lit.int k n).wf = true

/-- The same as natural numbers, where there is an element. -/
theorem row_in {w : World} {a : Option Addr} {len cap : Nat} {zs : List Int} (h : IsRow .u16 w a len cap zs) :
    ∃ l : List Nat, l.length = len ∧ (∀ x ∈ l, x < 65536) ∧ (0 < len → ∃ b off, a = some ⟨b, off, none⟩ ∧ b < w.heap.size ∧ ∀ i, i < len → w.cell? ⟨b, off + i, none⟩ = some (.int .u16 (l.getD i 0 : Nat))) := by
  rcases h with ⟨_, rfl, _, _⟩ | ⟨x, rfl, hlc, _, hzl, hc, hw⟩
  · exact ⟨[], rfl, fun x hx => by simp at hx, fun h => absurd h (by omega)⟩
  · have bd : ∀ n ∈ zs, 0 ≤ n ∧ n ≤ 65535 := fun n hn => by
      have := hw n hn
      simp [Lit.wf, IntKind.min, IntKind.max, IntKind.signed, IntKind.bits] at this
      exact ⟨by omega, by omega⟩
    refine ⟨(zs.take len).map Int.toNat, by simp; omega, fun x hx => ?_, fun h0 => ?_⟩
    · obtain ⟨n, hn, rfl⟩ := List.mem_map.1 hx
      have := bd n (List.mem_of_mem_take hn)
      omega
    · obtain ⟨b, off, rfl, hcell⟩ := ints_at hc (by omega)
      refine ⟨b, off, rfl, World.block_lt_of_cell? w _ (hcell 0 (by omega)), fun i hi => ?_⟩
      have hi' : i < zs.length := by omega
      rw [hcell i hi']
      have e1 : zs.getD i 0 = zs[i] := by simp [List.getD_eq_getElem?_getD, hi']
      have e2 : ((zs.take len).map Int.toNat).getD i 0 = zs[i].toNat := by simp [List.getD_eq_getElem?_getD, hi, hi']
      rw [e1, e2, Int.toNat_of_nonneg (bd _ (List.getElem_mem hi')).1]

/-- between over the prefixes of l. -/
theorem between_pf (B g cap a b n p F K L : Nat) (l : List Nat) (f t : Int) (hf : f = F) (ht : t = (F : Int) + K) (w : World) (hF : Fpr w B g cap a b n) (la : a < P61) (lb : b < P61) (hn : n < 1000000) (hL : L ≤ 100000) (hl : l.length = L)
    (hFK : F + K ≤ L) (hpB : p ≠ B) (hpg : p ≠ g) (C : Nat) (hrow : w.rowIs p 36 ((L + 1) * 2) (fpF (fun k => (pf a l k, pf b l k)))) :
    Calls Yba.prog 14 #[.pointer (some ⟨B, 0, none⟩), .slice (some ⟨p, 0, none⟩) (L + 1) C, .int .i64 f, .int .i64 t] w fun e w' =>
      e = .returned (.agg #[.int .u64 (pf a (l.drop F) K : Nat), .int .u64 (pf b (l.drop F) K : Nat)]) ∧
      ∃ g' cap' n', Fpr w' B g' cap' a b n' ∧ n' < 1000000 ∧ (g' = g ∨ w.heap.size ≤ g') ∧ But B g w w' := by
  refine (between_any B g cap a b n p (L + 1) C F (F + K) K _ _ _ _ f t hf (by omega) rfl w hF la lb hn (by omega) hrow.lt hpB hpg (by omega) (by omega)
    (fp_cellA hrow (by omega)) (fp_cellB hrow (by omega)) (fp_cellA hrow (by omega)) (fp_cellB hrow (by omega)) (pf_lt _ _ _) (pf_lt _ _ _) (pf_lt _ _ _) (pf_lt _ _ _)).mono ?_
  rintro e w' ⟨rfl, h⟩
  refine ⟨?_, h⟩
  have e1 := between_law a l F (F + K) (by omega) (by omega)
  have e2 := between_law b l F (F + K) (by omega) (by omega)
  rw [show F + K - F = K by omega] at e1 e2
  simp only [e1, e2]

set_option maxHeartbeats 1000000 in
set_option maxRecDepth 100000 in
theorem slice_walk (a b x y : Nat) (at0 : Option Addr) (len cap : Nat) (l : List Nat) (w : World) (ha : (a : Int) < 18446744073709551616) (hb : (b : Int) < 18446744073709551616)
    (hlen : (len : Int) ≤ 1024) (hl : l.length = len) (hz : ∀ x ∈ l, x < 65536)
    (hin : 0 < len → ∃ b off, at0 = some ⟨b, off, none⟩ ∧ b < w.heap.size ∧ ∀ i, i < len → w.cell? ⟨b, off + i, none⟩ = some (.int .u16 (l.getD i 0 : Nat))) :
    Calls Yba.prog 5 #[.int .u64 a, .int .u64 b, .slice at0 len cap, .int .u64 x, .int .u64 y] w fun e w' => e = .returned (.bool true) ∧ Below w.heap.size w w' := by
  obtain ⟨F, hF⟩ : ∃ F, F = x % (len + 1) := ⟨_, rfl⟩
  have hF1 : F ≤ len := by have := Nat.mod_lt x (show 0 < len + 1 by omega); omega
  have hFe : (x : Int) % ((len : Int) + 1) = F := by rw [show ((len : Int) + 1) = ((len + 1 : Nat) : Int) from rfl, ← Int.natCast_emod, ← hF]
  obtain ⟨K, hK⟩ : ∃ K, K = y % (len + 1 - F) := ⟨_, rfl⟩
  have hK1 : F + K ≤ len := by have := Nat.mod_lt y (show 0 < len + 1 - F by omega); omega
  have hKe : (y : Int) % ((len : Int) + 1 - F) = K := by
    have : ((len : Int) + 1 - F) = ((len + 1 - F : Nat) : Int) := by omega
    rw [this, ← Int.natCast_emod, ← hK]
  have hd : (F : Int) + K - F = K := by omega
  clear hF hK
  have HFe : Hid ((x : Int) % ((len : Int) + 1) = F) := hFe
  have HKe : Hid ((y : Int) % ((len : Int) + 1 - F) = K) := hKe
  have HD : Hid ((F : Int) + K - F = K) := hd
  clear hFe hKe hd
  have HIn : Hid (0 < len → ∃ b off, at0 = some ⟨b, off, none⟩ ∧ b < w.heap.size ∧ ∀ i, i < len → w.cell? ⟨b, off + i, none⟩ = some (.int .u16 (l.getD i 0 : Nat))) := hin
  have HZ : Hid (∀ x ∈ l, x < 65536) := hz
  have HL : Hid (l.length = len) := hl
  have HA : Hid ((a : Int) < 18446744073709551616) := ha
  have HBb : Hid ((b : Int) < 18446744073709551616) := hb
  clear hin hz hl ha hb
  have HLen : Hid ((len : Int) ≤ 1024) := hlen
  have hlen' : ¬ (1024 : Int) < len := by omega
  have HFl : Hid ((F : Int) ≤ len) := by show (F : Int) ≤ len; omega
  have HFK : Hid ((F : Int) + K ≤ len) := by show (F : Int) + K ≤ len; omega
  clear hlen hF1 hK1
  go_enter Yba.func5, Yba.ntmps5
  go_wp2_with fail
  refine (new_any a b w HA.out HBb.out).mono ?_
  rintro e w1 ⟨B, g, A, Z, rfl, hF0, lA, lZ, lB, lg, hb1⟩
  have HF1 : Hid (Fpr w1 B g 1 A Z 0) := hF0
  have HB1 : Hid (Below w.heap.size w w1) := hb1
  clear hF0 hb1
  go_wp2_with fail
  refine (ids_any at0 len cap l w1 (by omega) HL.out HZ.out (fun h => by
    obtain ⟨b, off, e, h1, h2⟩ := HIn.out h
    exact ⟨b, off, e, Nat.lt_of_lt_of_le h1 HB1.out.size, fun i hi => (HB1.out.cell (by exact h1)).trans (h2 i hi)⟩)).mono ?_
  rintro e w2 ⟨rfl, hids, hb2⟩
  have HIds : Hid (w2.rowIs w1.heap.size 21 len (fun j => .int .i32 (l.getD j 0 : Nat))) := hids
  have HB2 : Hid (Below w1.heap.size w1 w2) := hb2
  clear hids hb2
  have hFe := HFe.out
  have hKe := HKe.out
  have q1 : (len : Int) ≤ 1024 := HLen.out
  have q2 : (F : Int) ≤ len := HFl.out
  have q3 : (F : Int) + K ≤ len := HFK.out
  clear hlen'
  go_wp2_with fail
  have HF2 : Hid (Fpr w2 B g 1 A Z 0) := HF1.out.below' HB2.out
  refine (prefixes_any B A Z _ (some ⟨w1.heap.size, 0, none⟩) len len l w2 HF2.out.obj lA lZ (by omega) HL.out HZ.out (fun _ => ⟨w1.heap.size, 0, rfl, HIds.out.lt, fun i hi => by rw [Nat.zero_add]; exact HIds.out.cell hi⟩)).mono ?_
  rintro e w3 ⟨rfl, hpre, hb3⟩
  have HF3 : Hid (Fpr w3 B g 1 A Z 0) := HF2.out.below' hb3
  have HIds3 : Hid (w3.rowIs w1.heap.size 21 len (fun j => .int .i32 (l.getD j 0 : Nat))) := HIds.out.of_block (hb3.block _ HIds.out.lt)
  have HPre : Hid (w3.rowIs w2.heap.size 36 ((len + 1) * 2) (fpF (fun k => (pf A l k, pf Z l k)))) := hpre
  have HB3 : Hid (Below w2.heap.size w2 w3) := hb3
  have sB : B < w1.heap.size := HF1.out.ltB
  have sg : g < w1.heap.size := HF1.out.ltg
  have s12 : w1.heap.size ≤ w2.heap.size := HB2.out.size
  have s23 : w2.heap.size ≤ w3.heap.size := HB3.out.size
  have s1 : w1.heap.size < w2.heap.size := HIds.out.lt
  clear hpre hb3
  go_wp2_with fail
  refine (between_pf B g 1 A Z 0 w2.heap.size F K len l _ _ rfl rfl w3 HF3.out lA lZ (by omega) (by omega) HL.out (by omega) (by omega) (by omega) (len + 1) HPre.out).mono ?_
  rintro e w4 ⟨rfl, g4, cap4, n4, hF4, hn4, hg4, hbut⟩
  have HF4 : Hid (Fpr w4 B g4 cap4 A Z n4) := hF4
  have HIds4 : Hid (w4.rowIs w1.heap.size 21 len (fun j => .int .i32 (l.getD j 0 : Nat))) := HIds3.out.of_block (hbut.block _ HIds3.out.lt (by omega) (by omega))
  have HB4 : Hid (Below w.heap.size w w4) := ((HB1.out.trans (HB2.out.mono HB1.out.size)).trans (HB3.out.mono (by have := HB1.out.size; omega))).trans (hbut.below (by have := HB1.out.size; omega) lB lg)
  clear hF4 hbut hg4
  clear s12 s23 s1 sB sg
  go_upto_region 10 with fail
  clear hFe hKe
  have z1 : (0 : Int) ≤ F := by omega
  obtain ⟨T, hT⟩ : ∃ T : Nat, (F : Int) + K = T := ⟨F + K, rfl⟩
  rw [hT]
  have HT : Hid ((F : Int) + K = T) := hT
  have z2 : (F : Int) ≤ T := by omega
  have z3 : (T : Int) ≤ len := by omega
  have hTF : T - F = K := by omega
  have hTF' : (T : Int) - F = K := by omega
  have HTF : Hid (T - F = K) := hTF
  have HTF' : Hid ((T : Int) - F = K) := hTF'
  have hll : ((l.drop F).take K).length = K := by rw [List.length_take, List.length_drop, HL.out]; omega
  have HLL : Hid (((l.drop F).take K).length = K) := hll
  have HKl : Hid ((K : Int) ≤ 1024) := by show (K : Int) ≤ 1024; omega
  have HKn : Hid (F + K ≤ len) := by show F + K ≤ len; omega
  have hgd : ∀ i, i < K → ((l.drop F).take K).getD i 0 = l.getD (F + i) 0 := fun i hi => by
    simp [List.getD_eq_getElem?_getD, hi, List.getElem?_drop]
  have HGd : Hid (∀ i, i < K → ((l.drop F).take K).getD i 0 = l.getD (F + i) 0) := hgd
  obtain ⟨w5, hw5⟩ : ∃ w5, w5 = w4.alloc (.cells #[.int .u64 (pf A (l.drop F) K : Nat), .int .u64 (pf Z (l.drop F) K : Nat)] 36) := ⟨_, rfl⟩
  rw [← hw5]
  have s5 : w5.heap.size = w4.heap.size + 1 := by rw [hw5]; simp
  have HF5 : Hid (Fpr w5 B g4 cap4 A Z n4) := by rw [hw5]; exact HF4.out.below' ((Below.refl _ _).alloc (Nat.le_refl _) _)
  have HB5 : Hid (Below w.heap.size w w5) := by rw [hw5]; exact HB4.out.alloc HB4.out.size _
  have HIds5 : Hid (w5.rowIs w1.heap.size 21 len (fun j => .int .i32 (l.getD j 0 : Nat))) := by rw [hw5]; exact HIds4.out.alloc _
  have HG5 : Hid (w5.heap[w4.heap.size]? = some (.cells #[.int .u64 (pf A (l.drop F) K : Nat), .int .u64 (pf Z (l.drop F) K : Nat)] 36 (0, 0))) := by rw [hw5]; exact heap_alloc_new w4 _
  have HS5 : Hid (w5.heap.size = w4.heap.size + 1) := s5
  clear hT q3 q1 q2 hTF hTF' hll hgd hw5 s5
  by_cases hc : len = F
  · go_wp2_with fail
    rw [HTF.out]
    have hK0 : K = 0 := by have := HKn.out; omega
    refine (prefixes_any B A Z _ _ K _ ((l.drop F).take K) w5 HF5.out.obj lA lZ (by omega) HLL.out (fun x hx => HZ.out x (List.mem_of_mem_drop (List.mem_of_mem_take hx))) (fun h => absurd h (by omega))).mono ?_
    clear hK0 hc
    rintro e w6 ⟨rfl, hpre6, hb6⟩
    have v0 := fp_cellA hpre6 (k := K) (by omega)
    have v1 := fp_cellB hpre6 (k := K) (by omega)
    dsimp only at v0 v1
    rw [pf_take] at v0 v1
    have g6 : w6.heap[w4.heap.size]? = some (.cells #[.int .u64 (pf A (l.drop F) K : Nat), .int .u64 (pf Z (l.drop F) K : Nat)] 36 (0, 0)) := by rw [hb6.block _ (by rw [HS5.out]; omega)]; exact HG5.out
    have c0 : w6.cell? ⟨w4.heap.size, 0, none⟩ = some (.int .u64 (pf A (l.drop F) K : Nat)) := cell_of_block g6 0
    have c1 : w6.cell? ⟨w4.heap.size, 1, none⟩ = some (.int .u64 (pf Z (l.drop F) K : Nat)) := cell_of_block g6 1
    have lw6 : w4.heap.size < w6.heap.size := lt_of_heap g6
    have HB6 : Hid (Below w.heap.size w w6) := HB5.out.trans (hb6.mono HB5.out.size)
    have hTF' : (T : Int) - F = K := HTF'.out
    have hw1 : IntKind.i64.wrap (T - F : Int) = K := by rw [hTF', IntKind.wrap_i64]; have := HKl.out; omega
    have k3 := HKl.out
    have k1 : (0 : Int) ≤ K := by omega
    have k2 : (K : Int) < K + 1 := by omega
    clear g6 hb6 hpre6
    generalize pf A (l.drop F) K = ra at *
    generalize pf Z (l.drop F) K = rz at *
    go_wp2
    go_ret
    exact ⟨rfl, HB6.out.alloc HB6.out.size _⟩
  · go_wp2_with fail
    rw [HTF.out]
    refine (prefixes_any B A Z _ _ K _ ((l.drop F).take K) w5 HF5.out.obj lA lZ (by have := HKl.out; omega) HLL.out (fun x hx => HZ.out x (List.mem_of_mem_drop (List.mem_of_mem_take hx))) (fun _ => ⟨w1.heap.size, F, rfl, HIds5.out.lt, fun i hi => by rw [HGd.out i hi]; exact HIds5.out.cell (by have := HKn.out; omega)⟩)).mono ?_
    rintro e w6 ⟨rfl, hpre6, hb6⟩
    have v0 := fp_cellA hpre6 (k := K) (by omega)
    have v1 := fp_cellB hpre6 (k := K) (by omega)
    dsimp only at v0 v1
    rw [pf_take] at v0 v1
    have g6 : w6.heap[w4.heap.size]? = some (.cells #[.int .u64 (pf A (l.drop F) K : Nat), .int .u64 (pf Z (l.drop F) K : Nat)] 36 (0, 0)) := by rw [hb6.block _ (by rw [HS5.out]; omega)]; exact HG5.out
    have c0 : w6.cell? ⟨w4.heap.size, 0, none⟩ = some (.int .u64 (pf A (l.drop F) K : Nat)) := cell_of_block g6 0
    have c1 : w6.cell? ⟨w4.heap.size, 1, none⟩ = some (.int .u64 (pf Z (l.drop F) K : Nat)) := cell_of_block g6 1
    have lw6 : w4.heap.size < w6.heap.size := lt_of_heap g6
    have HB6 : Hid (Below w.heap.size w w6) := HB5.out.trans (hb6.mono HB5.out.size)
    have hTF' : (T : Int) - F = K := HTF'.out
    have hw1 : IntKind.i64.wrap (T - F : Int) = K := by rw [hTF', IntKind.wrap_i64]; have := HKl.out; omega
    have k3 := HKl.out
    have k1 : (0 : Int) ≤ K := by omega
    have k2 : (K : Int) < K + 1 := by omega
    clear g6 hb6 hpre6
    generalize pf A (l.drop F) K = ra at *
    generalize pf Z (l.drop F) K = rz at *
    go_wp2
    go_ret
    exact ⟨rfl, HB6.out.alloc HB6.out.size _⟩

#print axioms slice_walk
end Go.Proofs.Ybulkese
