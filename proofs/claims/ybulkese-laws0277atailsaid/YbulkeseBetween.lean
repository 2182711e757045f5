/-
  THE WALKS OF (*fingerprinter).between AND .join.
-/
import Derived.Test.YbulkesePower
import Derived.Deep.DeepCutAuto
namespace Go.Proofs.Ybulkese
open Go.RowKit
attribute [local go_sem ↓] Go.wp_at_zero Go.wp_at_succ
set_option linter.unusedSimpArgs false

theorem three_new (w : World) (o1 o2 o3 : Obj) : (((w.alloc o1).alloc o2).alloc o3).drew.heap[w.heap.size]? = some o1 ∧ (((w.alloc o1).alloc o2).alloc o3).drew.heap[w.heap.size + 1]? = some o2 ∧
    (((w.alloc o1).alloc o2).alloc o3).drew.heap[w.heap.size + 1 + 1]? = some o3 ∧ Below w.heap.size w (((w.alloc o1).alloc o2).alloc o3).drew := by
  refine ⟨?_, ?_, ?_, ((((Below.refl _ _).alloc (Nat.le_refl _) _).alloc (by simp) _).alloc (by simp; omega) _).drew⟩
  · show (((w.heap.push o1).push o2).push o3)[w.heap.size]? = some o1
    rw [Array.getElem?_push, if_neg (by simp; omega), Array.getElem?_push, if_neg (by simp), Array.getElem?_push_size]
  · show (((w.heap.push o1).push o2).push o3)[w.heap.size + 1]? = some o2
    rw [Array.getElem?_push, if_neg (by simp), Array.getElem?_push, if_pos (by simp)]
  · show (((w.heap.push o1).push o2).push o3)[w.heap.size + 1 + 1]? = some o3
    rw [Array.getElem?_push, if_pos (by simp)]

/-- The result is stored into its own new block. -/
theorem close_pair {w w1 wc : World} {B g R g1 cap1 a b n1 : Nat} {W0 : World} (HB : But B g W0 w1) (HBel : Below w1.heap.size w1 wc) (HF : Fpr w1 B g1 cap1 a b n1) (HN : B ≠ R ∧ g1 ≠ R) (u v : Value)
    (h0 : Below w.heap.size w W0) (hR : w.heap.size ≤ R) :
    Fpr ((wc.setCell ⟨R, 0, none⟩ u).setCell ⟨R, 1, none⟩ v).drew B g1 cap1 a b n1 ∧ But B g w ((wc.setCell ⟨R, 0, none⟩ u).setCell ⟨R, 1, none⟩ v).drew := by
  refine ⟨HF.same ?_ ?_, (((((But.of_then h0 HB).then_below HBel).setCell (.inr (.inr hR)) _)).setCell (.inr (.inr hR)) _).drew⟩
  · show ((wc.setCell ⟨R, 0, none⟩ u).setCell ⟨R, 1, none⟩ v).heap[B]? = _
    rw [heap_setCell_other _ _ _ _ (by exact HN.1), heap_setCell_other _ _ _ _ (by exact HN.1)]
    exact HBel.block _ HF.ltB
  · show ((wc.setCell ⟨R, 0, none⟩ u).setCell ⟨R, 1, none⟩ v).heap[g1]? = _
    rw [heap_setCell_other _ _ _ _ (by exact HN.2), heap_setCell_other _ _ _ _ (by exact HN.2)]
    exact HBel.block _ HF.ltg

theorem close_alloc {w X : World} {o : Obj} {B g g1 cap1 a b n1 : Nat} (h1 : Fpr X.drew B g1 cap1 a b n1) (h2 : But B g w X.drew) : Fpr (X.alloc o).drew B g1 cap1 a b n1 ∧ But B g w (X.alloc o).drew := by
  have hb : Below X.drew.heap.size X.drew (X.alloc o).drew := ⟨rfl, rfl, rfl, by show X.heap.size ≤ (X.heap.push o).size; simp, fun k hk => Below.heap_alloc X o k hk⟩
  exact ⟨h1.below' hb, h2.then_below hb⟩

set_option maxHeartbeats 1000000 in
/-- between. -/
theorem between_any (B g cap a b n p N C F T K ha hb ga gb : Nat) (f t : Int) (hf : f = F) (ht : t = T) (hT : T = F + K) (w : World) (hF : Fpr w B g cap a b n) (la : a < P61) (lb : b < P61) (hn : n < 1000000) (hK : K < 1000000)
    (hp : p < w.heap.size) (hpB : p ≠ B) (hpg : p ≠ g) (hFK : T < N) (hN : N < 1000000)
    (x0 : w.cell? ⟨p, T * 2, none⟩ = some (.int .u64 ha)) (x1 : w.cell? ⟨p, T * 2 + 1, none⟩ = some (.int .u64 hb))
    (y0 : w.cell? ⟨p, F * 2, none⟩ = some (.int .u64 ga)) (y1 : w.cell? ⟨p, F * 2 + 1, none⟩ = some (.int .u64 gb))
    (lha : ha < P61) (lhb : hb < P61) (lga : ga < P61) (lgb : gb < P61) :
    Calls Yba.prog 14 #[.pointer (some ⟨B, 0, none⟩), .slice (some ⟨p, 0, none⟩) N C, .int .i64 f, .int .i64 t] w fun e w' =>
      e = .returned (.agg #[.int .u64 (sm ha (mm ga (pw a K)) : Nat), .int .u64 (sm hb (mm gb (pw b K)) : Nat)]) ∧
      ∃ g' cap' n', Fpr w' B g' cap' a b n' ∧ n' < 1000000 ∧ (g' = g ∨ w.heap.size ≤ g') ∧ But B g w w' := by
  subst hf ht
  have HT : Hid (T = F + K) := hT
  have hT' : (F : Int) ≤ T := by omega
  clear hT
  go_enter Yba.func14, Yba.ntmps14
  go_wp2_with fail
  rw [show ((T : Int) - F) = K from by have := HT.out; omega]
  refine (power_any B g cap a b n K _ (hF.below' ((Below.refl _ _).alloc (Nat.le_refl _) _)) la lb hn hK).mono ?_
  rintro e w1 ⟨rfl, g1, cap1, n1, hF1, hn1, hg1, hbut⟩
  have hlB := hF.ltB
  have hlg := hF.ltg
  have hsz := hbut.size
  simp at hsz hg1
  have x0' : w1.cell? ⟨p, T * 2, none⟩ = some (.int .u64 ha) := by rw [hbut.cell (by simp; omega) hpB hpg, World.cell?_alloc_past _ _ _ hp]; exact x0
  have x1' : w1.cell? ⟨p, T * 2 + 1, none⟩ = some (.int .u64 hb) := by rw [hbut.cell (by simp; omega) hpB hpg, World.cell?_alloc_past _ _ _ hp]; exact x1
  have y0' : w1.cell? ⟨p, F * 2, none⟩ = some (.int .u64 ga) := by rw [hbut.cell (by simp; omega) hpB hpg, World.cell?_alloc_past _ _ _ hp]; exact y0
  have y1' : w1.cell? ⟨p, F * 2 + 1, none⟩ = some (.int .u64 gb) := by rw [hbut.cell (by simp; omega) hpB hpg, World.cell?_alloc_past _ _ _ hp]; exact y1
  have hres : w1.heap[w.heap.size]? = some (.cells #[.int .u64 0, .int .u64 0] 36 (0, 0)) := by
    rw [hbut.block w.heap.size (by simp) (by omega) (by omega)]
    exact heap_alloc_new w _
  have r0 : w1.cell? ⟨w.heap.size, 0, none⟩ = some (.int .u64 0) := cell_of_block hres 0
  have r1 : w1.cell? ⟨w.heap.size, 1, none⟩ = some (.int .u64 0) := cell_of_block hres 1
  have r2 : w1.frozen? ⟨w.heap.size, 0, none⟩ = false := frozen_of_block hres
  have r3 : w1.frozen? ⟨w.heap.size, 1, none⟩ = false := frozen_of_block hres
  have HB : Hid (But B g (w.alloc (.cells #[.int .u64 0, .int .u64 0] 36)) w1) := hbut
  have HF : Hid (Fpr w1 B g1 cap1 a b n1) := hF1
  have HG : Hid (g1 = g ∨ w.heap.size + 1 ≤ g1) := hg1
  have HR : Hid (w1.heap[w.heap.size]? = some (.cells #[.int .u64 0, .int .u64 0] 36 (0, 0))) := hres
  have HN : Hid (B ≠ w.heap.size ∧ g1 ≠ w.heap.size) := ⟨by omega, by omega⟩
  have np := World.new_ne w1 _ x0'
  have nr := World.new_ne w1 _ r0
  have lp : p < w1.heap.size := by omega
  have lp1 : p < w1.heap.size + 1 := by omega
  have lp2 : p < w1.heap.size + 1 + 1 := by omega
  have i0 : (0 : Int) ≤ F := by omega
  have i1 : (F : Int) < N := by omega
  have i2 : (0 : Int) ≤ (T : Int) := by omega
  have i3 : (T : Int) < N := by omega
  clear x0 x1 y0 y1 hbut hF1 hg1 hres hlB hlg hsz hF hp
  go_wp2
  go_cut [10, 11] (fun s t wx => ∃ X Y, s = .pointer (some ⟨X, 0, none⟩) ∧ t = .pointer (some ⟨Y, 0, none⟩) ∧ wx.heap[X]? = some (.cells #[.int .u64 ha, .int .u64 hb] 36 (0, 0)) ∧ wx.heap[Y]? = some (.cells #[.int .u64 ga, .int .u64 gb] 36 (0, 0)) ∧ w1.heap.size < X ∧ w1.heap.size < Y ∧ wx.heap[w1.heap.size]? = some (.cells #[.int .u64 (pw a K : Nat), .int .u64 (pw b K : Nat)] 36 (0, 0)) ∧ Below w1.heap.size w1 wx)
  case first =>
    go_region_held3 (fun w' => w'.cell? ⟨p, T * 2, none⟩ = some (.int .u64 ha) ∧ w'.cell? ⟨p, T * 2 + 1, none⟩ = some (.int .u64 hb) ∧ w'.cell? ⟨p, F * 2, none⟩ = some (.int .u64 ga) ∧ w'.cell? ⟨p, F * 2 + 1, none⟩ = some (.int .u64 gb)) (simp [*, go_sem, World.cell?_alloc_past]) (fail)
    all_goals go_wp2
    · go_meet
      obtain ⟨n1, n2, n3, n4⟩ := three_new w1 (.cells #[.int .u64 (pw a K : Nat), .int .u64 (pw b K : Nat)] 36) (.cells #[.int .u64 ha, .int .u64 hb] 36) (.cells #[.int .u64 ga, .int .u64 gb] 36)
      exact ⟨_, _, rfl, rfl, n2, n3, by omega, by omega, n1, n4⟩
    · go_meet
      obtain ⟨n1, n2, n3, n4⟩ := three_new w1 (.cells #[.int .u64 (pw a K : Nat), .int .u64 (pw b K : Nat)] 36) (.cells #[.int .u64 ga, .int .u64 gb] 36) (.cells #[.int .u64 ha, .int .u64 hb] 36)
      exact ⟨_, _, rfl, rfl, n3, n2, by omega, by omega, n1, n4⟩
  case rest =>
    obtain ⟨X, Y, rfl, rfl, hX, hY, lX, lY, hZ, hbel⟩ := hcut
    have hsz : w.heap.size + 1 ≤ w1.heap.size := by have := HB.out.size; simpa using this
    have hres' : wc.heap[w.heap.size]? = some (.cells #[.int .u64 0, .int .u64 0] 36 (0, 0)) := by rw [hbel.block _ (by omega)]; exact HR.out
    have a0 : wc.cell? ⟨X, 0, none⟩ = some (.int .u64 ha) := cell_of_block hX 0
    have a1 : wc.cell? ⟨X, 1, none⟩ = some (.int .u64 hb) := cell_of_block hX 1
    have b0 : wc.cell? ⟨Y, 0, none⟩ = some (.int .u64 ga) := cell_of_block hY 0
    have b1 : wc.cell? ⟨Y, 1, none⟩ = some (.int .u64 gb) := cell_of_block hY 1
    have d0 : wc.cell? ⟨w1.heap.size, 0, none⟩ = some (.int .u64 (pw a K : Nat)) := cell_of_block hZ 0
    have d1 : wc.cell? ⟨w1.heap.size, 1, none⟩ = some (.int .u64 (pw b K : Nat)) := cell_of_block hZ 1
    have r0' : wc.cell? ⟨w.heap.size, 0, none⟩ = some (.int .u64 0) := cell_of_block hres' 0
    have r1' : wc.cell? ⟨w.heap.size, 1, none⟩ = some (.int .u64 0) := cell_of_block hres' 1
    have r2' : wc.frozen? ⟨w.heap.size, 0, none⟩ = false := frozen_of_block hres'
    have r3' : wc.frozen? ⟨w.heap.size, 1, none⟩ = false := frozen_of_block hres'
    have ne1 : w.heap.size ≠ X := by omega
    have ne2 : w.heap.size ≠ Y := by omega
    have ne3 : w.heap.size ≠ w1.heap.size := by omega
    have ne1' : X ≠ w.heap.size := by omega
    have ne2' : Y ≠ w.heap.size := by omega
    have ne3' : w1.heap.size ≠ w.heap.size := by omega
    have HRC : Hid (wc.heap[w.heap.size]? = some (.cells #[.int .u64 0, .int .u64 0] 36 (0, 0))) := hres'
    have HBel : Hid (Below w1.heap.size w1 wc) := hbel
    have pa := pw_lt a K
    have pb := pw_lt b K
    clear hres' hbel x0' x1' y0' y1' r0 r1 r2 r3 np nr lp lp1 lp2 i0 i1 i2 i3 hX hY hZ lX lY hsz
    go_wp2
    go_region_held3 (fun w' => w'.cell? ⟨X, 0, none⟩ = some (.int .u64 ha) ∧ w'.cell? ⟨X, 1, none⟩ = some (.int .u64 hb) ∧ w'.cell? ⟨Y, 0, none⟩ = some (.int .u64 ga) ∧ w'.cell? ⟨Y, 1, none⟩ = some (.int .u64 gb) ∧ w'.cell? ⟨w1.heap.size, 0, none⟩ = some (.int .u64 (pw a K : Nat)) ∧ w'.cell? ⟨w1.heap.size, 1, none⟩ = some (.int .u64 (pw b K : Nat))) (go_keep)
      (first
        | (go_at_call 20; refine (mulMod_any _ _ (by assumption) (by assumption) _).mono ?_; rintro e w' ⟨rfl, rfl⟩)
        | (go_at_call 22; refine (subMod_any _ _ (by assumption) (mm_lt _ _) _).mono ?_; rintro e w' ⟨rfl, rfl⟩))
    go_wp2
    obtain ⟨t0, t1⟩ := pair_stored HRC.out (.int .u64 (sm ha (mm ga (pw a K)) : Nat)) (.int .u64 (sm hb (mm gb (pw b K)) : Nat))
    obtain ⟨k1, k2⟩ := close_pair HB.out HBel.out HF.out HN.out (.int .u64 (sm ha (mm ga (pw a K)) : Nat)) (.int .u64 (sm hb (mm gb (pw b K)) : Nat)) ((Below.refl _ _).alloc (Nat.le_refl _) _) (Nat.le_refl _)
    exact bodyPost_ret (v := .agg #[.int .u64 (sm ha (mm ga (pw a K)) : Nat), .int .u64 (sm hb (mm gb (pw b K)) : Nat)]) (by simp [results, Yba.results14, go_sem, t0, t1]) rfl ⟨rfl, g1, cap1, n1, k1, hn1, (by have := HG.out; omega), k2⟩

set_option maxHeartbeats 1000000 in
/-- join. -/
theorem join_any (B g cap a b n K ha hb ga gb : Nat) (w : World) (hF : Fpr w B g cap a b n) (la : a < P61) (lb : b < P61) (hn : n < 1000000) (hK : K < 1000000)
    (lha : ha < P61) (lhb : hb < P61) (lga : ga < P61) (lgb : gb < P61) :
    Calls Yba.prog 15 #[.pointer (some ⟨B, 0, none⟩), .agg #[.int .u64 ha, .int .u64 hb], .agg #[.int .u64 ga, .int .u64 gb], .int .i64 K] w fun e w' =>
      e = .returned (.agg #[.int .u64 (am (mm ha (pw a K)) ga : Nat), .int .u64 (am (mm hb (pw b K)) gb : Nat)]) ∧
      ∃ g' cap' n', Fpr w' B g' cap' a b n' ∧ n' < 1000000 ∧ (g' = g ∨ w.heap.size ≤ g') ∧ But B g w w' := by
  go_enter Yba.func15, Yba.ntmps15
  go_wp2_with fail
  obtain ⟨W0, hW0⟩ : ∃ W0, W0 = ((w.alloc (.cells #[.int .u64 ha, .int .u64 hb] 36)).alloc (.cells #[.int .u64 ga, .int .u64 gb] 36)).alloc (.cells #[.int .u64 0, .int .u64 0] 36) := ⟨_, rfl⟩
  rw [← hW0]
  have hlB := hF.ltB
  have hlg := hF.ltg
  obtain ⟨f1, f2, f3, f4⟩ := three_new w (.cells #[.int .u64 ha, .int .u64 hb] 36) (.cells #[.int .u64 ga, .int .u64 gb] 36) (.cells #[.int .u64 0, .int .u64 0] 36)
  have f1' : W0.heap[w.heap.size]? = some (.cells #[.int .u64 ha, .int .u64 hb] 36 (0, 0)) := by rw [hW0]; exact f1
  have f2' : W0.heap[w.heap.size + 1]? = some (.cells #[.int .u64 ga, .int .u64 gb] 36 (0, 0)) := by rw [hW0]; exact f2
  have f3' : W0.heap[w.heap.size + 1 + 1]? = some (.cells #[.int .u64 0, .int .u64 0] 36 (0, 0)) := by rw [hW0]; exact f3
  have f4' : Below w.heap.size w W0 := by rw [hW0]; exact ⟨f4.os, f4.tape, f4.output, f4.size, f4.block⟩
  have hs0 : W0.heap.size = w.heap.size + 1 + 1 + 1 := by rw [hW0]; simp
  clear f1 f2 f3 f4
  refine (power_any B g cap a b n K W0 (hF.below' f4') la lb hn hK).mono ?_
  rintro e w1 ⟨rfl, g1, cap1, n1, hF1, hn1, hg1, hbut⟩
  have hsz := hbut.size
  have hX : w1.heap[w.heap.size]? = some (.cells #[.int .u64 ha, .int .u64 hb] 36 (0, 0)) := by rw [hbut.block _ (by omega) (by omega) (by omega)]; exact f1'
  have hY : w1.heap[w.heap.size + 1]? = some (.cells #[.int .u64 ga, .int .u64 gb] 36 (0, 0)) := by rw [hbut.block _ (by omega) (by omega) (by omega)]; exact f2'
  have hres : w1.heap[w.heap.size + 1 + 1]? = some (.cells #[.int .u64 0, .int .u64 0] 36 (0, 0)) := by rw [hbut.block _ (by omega) (by omega) (by omega)]; exact f3'
  have a0 : w1.cell? ⟨w.heap.size, 0, none⟩ = some (.int .u64 ha) := cell_of_block hX 0
  have a1 : w1.cell? ⟨w.heap.size, 1, none⟩ = some (.int .u64 hb) := cell_of_block hX 1
  have b0 : w1.cell? ⟨w.heap.size + 1, 0, none⟩ = some (.int .u64 ga) := cell_of_block hY 0
  have b1 : w1.cell? ⟨w.heap.size + 1, 1, none⟩ = some (.int .u64 gb) := cell_of_block hY 1
  have r0 : w1.cell? ⟨w.heap.size + 1 + 1, 0, none⟩ = some (.int .u64 0) := cell_of_block hres 0
  have r1 : w1.cell? ⟨w.heap.size + 1 + 1, 1, none⟩ = some (.int .u64 0) := cell_of_block hres 1
  have r2 : w1.frozen? ⟨w.heap.size + 1 + 1, 0, none⟩ = false := frozen_of_block hres
  have r3 : w1.frozen? ⟨w.heap.size + 1 + 1, 1, none⟩ = false := frozen_of_block hres
  have HB : Hid (But B g W0 w1) := hbut
  have HF : Hid (Fpr w1 B g1 cap1 a b n1) := hF1
  have HG : Hid (g1 = g ∨ w.heap.size ≤ g1) := by rcases hg1 with h | h; exact .inl h; exact .inr (by omega)
  have HR : Hid (w1.heap[w.heap.size + 1 + 1]? = some (.cells #[.int .u64 0, .int .u64 0] 36 (0, 0))) := hres
  have HN : Hid (B ≠ w.heap.size + 1 + 1 ∧ g1 ≠ w.heap.size + 1 + 1) := ⟨by omega, by omega⟩
  have HW : Hid (Below w.heap.size w W0) := f4'
  have n1' := World.new_ne w1 _ a0
  have n2' := World.new_ne w1 _ b0
  have n3' := World.new_ne w1 _ r0
  have lX : w.heap.size < w1.heap.size := by omega
  have lY : w.heap.size + 1 < w1.heap.size := by omega
  have lR : w.heap.size + 1 + 1 < w1.heap.size := by omega
  have m1 : w.heap.size + 1 + 1 ≠ w1.heap.size := by omega
  have pa := pw_lt a K
  have pb := pw_lt b K
  clear hbut hF1 hg1 hres hX hY hlB hlg hsz hF f1' f2' f3' f4' hs0 hW0
  generalize hR : w.heap.size + 1 + 1 = R at *
  generalize hY : w.heap.size + 1 = Y at *
  have HRe : Hid (w.heap.size ≤ R) := by show w.heap.size ≤ R; omega
  have ne1 : R ≠ w.heap.size := by omega
  have ne2 : R ≠ Y := by omega
  clear hR hY
  go_wp2
  go_region_held3 (fun w' => w'.cell? ⟨w.heap.size, 0, none⟩ = some (.int .u64 ha) ∧ w'.cell? ⟨w.heap.size, 1, none⟩ = some (.int .u64 hb) ∧ w'.cell? ⟨Y, 0, none⟩ = some (.int .u64 ga) ∧ w'.cell? ⟨Y, 1, none⟩ = some (.int .u64 gb) ∧ w'.cell? ⟨w1.heap.size, 0, none⟩ = some (.int .u64 (pw a K : Nat)) ∧ w'.cell? ⟨w1.heap.size, 1, none⟩ = some (.int .u64 (pw b K : Nat))) (simp [*, World.cell?_alloc_past, World.cell?_alloc_at, World.cell?_setCell_far])
      (first
        | (go_at_call 20; refine (mulMod_any _ _ (by assumption) (by assumption) _).mono ?_; rintro e w' ⟨rfl, rfl⟩)
        | (go_at_call 19; refine (addMod_any _ _ (mm_lt _ _) (by assumption) _).mono ?_; rintro e w' ⟨rfl, rfl⟩))
  go_wp2
  obtain ⟨t0, t1⟩ := pair_stored HR.out (.int .u64 (am (mm ha (pw a K)) ga : Nat)) (.int .u64 (am (mm hb (pw b K)) gb : Nat))
  obtain ⟨k1, k2⟩ := close_pair HB.out (Below.refl _ _) HF.out HN.out (.int .u64 (am (mm ha (pw a K)) ga : Nat)) (.int .u64 (am (mm hb (pw b K)) gb : Nat)) HW.out HRe.out
  obtain ⟨k3, k4⟩ := close_alloc (o := .cells #[.int .u64 (pw a K : Nat), .int .u64 (pw b K : Nat)] 36) k1 k2
  exact bodyPost_ret (v := .agg #[.int .u64 (am (mm ha (pw a K)) ga : Nat), .int .u64 (am (mm hb (pw b K)) gb : Nat)]) (by simp [results, Yba.results15, go_sem, World.cell?_alloc_past, lR, t0, t1]) rfl ⟨rfl, g1, cap1, n1, k3, hn1, HG.out, k4⟩

#print axioms between_any
#print axioms join_any
end Go.Proofs.Ybulkese
