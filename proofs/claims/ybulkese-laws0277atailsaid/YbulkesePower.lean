/-
  THE WALK OF (*fingerprinter).power: the powers are worked out up to the n-th; the fingerprinter's block and the row of its powers alone may turn.
-/
import Derived.Test.YbulkeseState
import Derived.Test.YbulkeseHeldLast
import Derived.Deep.LoopGhost
namespace Go.Proofs.Ybulkese
open Go.RowKit
attribute [local go_sem ↓] Go.wp_at_zero Go.wp_at_succ
set_option linter.unusedSimpArgs false

theorem two_new (w : World) (o1 o2 : Obj) : ((w.alloc o1).alloc o2).drew.drew.heap[w.heap.size + 1]? = some o2 := by
  have e : w.heap.size + 1 = (w.heap.push o1).size := by simp
  show ((w.heap.push o1).push o2)[w.heap.size + 1]? = some o2
  rw [e, Array.getElem?_push_size]
theorem below_two (w : World) (o1 o2 : Obj) : Below w.heap.size w ((w.alloc o1).alloc o2).drew.drew :=
  (((Below.refl _ _).alloc (Nat.le_refl _) _).alloc (by simp) _).drew.drew
theorem keep_grown {wr w2 : World} {B g n cap a b : Nat} {va vb : Value} (hne : B ≠ g) (lB : B < wr.heap.size) (lg : g < wr.heap.size) {o1 o2 : Obj}
    (h : ((wr.alloc o1).alloc o2).drew.drew.cell? ⟨B, 0, none⟩ = some (.int .u64 a) ∧ ((wr.alloc o1).alloc o2).drew.drew.cell? ⟨B, 1, none⟩ = some (.int .u64 b) ∧ ((wr.alloc o1).alloc o2).drew.drew.cell? ⟨B, 2, none⟩ = some (.slice (some ⟨g, 0, none⟩) (n + 1) cap) ∧
      ((wr.alloc o1).alloc o2).drew.drew.cell? ⟨wr.heap.size, 0, none⟩ = some va ∧ ((wr.alloc o1).alloc o2).drew.drew.cell? ⟨wr.heap.size, 1, none⟩ = some vb ∧ ((wr.alloc o1).alloc o2).drew.drew.frozen? ⟨B, 2, none⟩ = false)
    (hgrow : ((wr.alloc o1).alloc o2).drew.drew.grownBy w2 (some g)) :
    w2.cell? ⟨B, 0, none⟩ = some (.int .u64 a) ∧ w2.cell? ⟨B, 1, none⟩ = some (.int .u64 b) ∧ w2.cell? ⟨B, 2, none⟩ = some (.slice (some ⟨g, 0, none⟩) (n + 1) cap) ∧
      w2.cell? ⟨wr.heap.size, 0, none⟩ = some va ∧ w2.cell? ⟨wr.heap.size, 1, none⟩ = some vb ∧ w2.frozen? ⟨B, 2, none⟩ = false := by
  obtain ⟨h0, h1, h2, h3, h4, h5⟩ := h
  have hs : wr.heap.size ≤ ((wr.alloc o1).alloc o2).drew.drew.heap.size := (below_two wr o1 o2).size
  have hs' : wr.heap.size < ((wr.alloc o1).alloc o2).drew.drew.heap.size := by
    show wr.heap.size < ((wr.heap.push o1).push o2).size
    simp; omega
  have nB : some B ≠ some g := by simpa using hne
  have nL : some wr.heap.size ≠ some g := by simp; omega
  refine ⟨?_, ?_, ?_, ?_, ?_, ?_⟩
  · rw [hgrow.cell_far ⟨B, 0, none⟩ (Nat.lt_of_lt_of_le lB hs) nB]; exact h0
  · rw [hgrow.cell_far ⟨B, 1, none⟩ (Nat.lt_of_lt_of_le lB hs) nB]; exact h1
  · rw [hgrow.cell_far ⟨B, 2, none⟩ (Nat.lt_of_lt_of_le lB hs) nB]; exact h2
  · rw [hgrow.cell_far ⟨wr.heap.size, 0, none⟩ hs' nL]; exact h3
  · rw [hgrow.cell_far ⟨wr.heap.size, 1, none⟩ hs' nL]; exact h4
  · rw [hgrow.frozen_far ⟨B, 2, none⟩ (Nat.lt_of_lt_of_le lB hs) nB]; exact h5
theorem pair_stored {w : World} {X : Nat} {x y : Value} {t : TypeId} (h : w.heap[X]? = some (.cells #[x, y] t (0, 0))) (u v : Value) :
    ((w.setCell ⟨X, 0, none⟩ u).setCell ⟨X, 1, none⟩ v).cell? ⟨X, 0, none⟩ = some u ∧ ((w.setCell ⟨X, 0, none⟩ u).setCell ⟨X, 1, none⟩ v).cell? ⟨X, 1, none⟩ = some v := by
  have h1 := heap_setCell_same w X 0 _ t u h
  have h2 := heap_setCell_same _ X 1 _ t v h1
  exact ⟨by rw [cell_of_block h2 0]; simp, by rw [cell_of_block h2 1]; simp⟩
theorem info36 : (Yba.prog.info? 36).map (fun i => (i.zero, i.size, i.bytes)) = some (some (.agg #[.int .u64 0, .int .u64 0]), 2, 16) := by kernel_rfl

set_option maxHeartbeats 1000000 in
theorem power_any (B g cap a b n m : Nat) (w : World) (hF : Fpr w B g cap a b n) (la : a < P61) (lb : b < P61) (hn : n < 1000000) (hm : m < 1000000) :
    Calls Yba.prog 21 #[.pointer (some ⟨B, 0, none⟩), .int .i64 m] w fun e w' =>
      e = .returned (.agg #[.int .u64 (pw a m : Nat), .int .u64 (pw b m : Nat)]) ∧
      ∃ g' cap' n', Fpr w' B g' cap' a b n' ∧ n' < 1000000 ∧ (g' = g ∨ w.heap.size ≤ g') ∧ But B g w w' := by
  obtain ⟨i0, hi, hz0, hz1, hz2⟩ := info_parts info36
  go_enter Yba.func21, Yba.ntmps21
  go_wp2
  go_loopg [] m (fun k wr => ∃ g' cap' n', Fpr wr B g' cap' a b n' ∧ n' < 1000000 ∧ (g' = g ∨ w.heap.size < g') ∧ But B g (w.alloc (.cells #[.int .u64 0, .int .u64 0] 36)) wr ∧ m ≤ n' + k)
  case atStart => exact ⟨g, cap, n, hF.below' ((Below.refl _ _).alloc (Nat.le_refl _) _), hn, .inl rfl, But.refl _ _ _, by omega⟩
  case round =>
    obtain ⟨g', cap', n', hF', hn', hg', hbut, hk⟩ := hrel
    have c0 := hF'.c0
    have c1 := hF'.c1
    have c2 := hF'.c2
    have f2 := hF'.f2
    have lBw := hF'.ltB
    have lgw := hF'.ltg
    have q0 := hF'.cellA (Nat.le_refl n')
    have q1 := hF'.cellB (Nat.le_refl n')
    have hne := hF'.ne
    have hcaps := hF'.caps
    by_cases hlt : (n' : Int) + 1 ≤ m
    · have z0 : (0 : Int) ≤ n' := by omega
      have ww : IntKind.i64.wrap ((n' : Int) + 1 - 1) = n' := by rw [IntKind.wrap_i64]; omega
      have wv : IntKind.i64.wrap (n' : Int) = n' := by rw [IntKind.wrap_i64]; omega
      have z1 : (n' : Int) < n' + 1 := by omega
      have e1 := World.new_ne wr _ c2
      have e2 := World.new_ne wr _ q0
      have HB : Hid (But B g (w.alloc (.cells #[.int .u64 0, .int .u64 0] 36)) wr) := hbut
      have HF : Hid (Fpr wr B g' cap' a b n') := hF'
      have HG : Hid (g' = g ∨ w.heap.size < g') := hg'
      clear hbut hF' hg'
      go_wp2
      go_region_held3 (fun w' => w'.cell? ⟨B, 2, none⟩ = some (.slice (some ⟨g', 0, none⟩) (n' + 1) cap') ∧ w'.cell? ⟨g', n' * 2, none⟩ = some (.int .u64 (pw a n' : Nat)) ∧ w'.cell? ⟨g', n' * 2 + 1, none⟩ = some (.int .u64 (pw b n' : Nat))) (go_keep) (fail)
      go_wp2
      clear ww wv z0 z1 q0 q1
      have pa := pw_lt a n'
      have pb := pw_lt b n'
      refine wp_region_noPanic ?_
      refine wp_region_L (fun w' => w'.cell? ⟨B, 0, none⟩ = some (.int .u64 a) ∧ w'.cell? ⟨B, 1, none⟩ = some (.int .u64 b) ∧ w'.cell? ⟨B, 2, none⟩ = some (.slice (some ⟨g', 0, none⟩) (n' + 1) cap') ∧ w'.cell? ⟨wr.heap.size, 0, none⟩ = some (.int .u64 (pw a n' : Nat)) ∧ w'.cell? ⟨wr.heap.size, 1, none⟩ = some (.int .u64 (pw b n' : Nat)) ∧ w'.frozen? ⟨B, 2, none⟩ = false) 26 (by kernel_rfl) (by (simp [*, World.cell?_alloc_some, frozen?_alloc_cells])) (fun hHeld => ?_)
      refine anyL_take (i := 0) (v := ?_) rfl (by kernel_rfl) (by kernel_rfl) (by kernel_rfl) (by kernel_rfl) (fun _ _ _ h => h) (Or.inl ⟨by rfl, ?_⟩) (by assumption) ?_
      rotate_left
      · (intro w hSw; (try dsimp only at hSw); go_simp; all_goals (with_reducible rfl))
      simp only [Act.put, List.setIfInBounds_toArray, List.set_cons_zero, List.set_cons_succ]
      refine anyL_take (i := 1) (v := ?_) rfl (by kernel_rfl) (by kernel_rfl) (by kernel_rfl) (by kernel_rfl) (fun _ _ _ h => h) (Or.inl ⟨by rfl, ?_⟩) (by assumption) ?_
      rotate_left
      · (intro w hSw; (try dsimp only at hSw); go_simp; all_goals (with_reducible rfl))
      simp only [Act.put, List.setIfInBounds_toArray, List.set_cons_zero, List.set_cons_succ]
      refine anyL_take (i := 2) (v := ?_) rfl (by kernel_rfl) (by kernel_rfl) (by kernel_rfl) (by kernel_rfl) (fun _ _ _ h => h) (Or.inl ⟨by rfl, ?_⟩) (by assumption) ?_
      rotate_left
      · (intro w hSw; (try dsimp only at hSw); go_simp; all_goals (with_reducible rfl))
      simp only [Act.put, List.setIfInBounds_toArray, List.set_cons_zero, List.set_cons_succ]
      refine anyL_take (i := 3) (v := ?_) rfl (by kernel_rfl) (by kernel_rfl) (by kernel_rfl) (by kernel_rfl) (fun _ _ _ h => h) (Or.inl ⟨by rfl, ?_⟩) (by assumption) ?_
      rotate_left
      · (intro w hSw; (try dsimp only at hSw); go_simp; all_goals (with_reducible rfl))
      simp only [Act.put, List.setIfInBounds_toArray, List.set_cons_zero, List.set_cons_succ]
      refine anyL_take (i := 4) (v := ?_) rfl (by kernel_rfl) (by kernel_rfl) (by kernel_rfl) (by kernel_rfl) (fun _ _ _ h => h) (Or.inl ⟨by rfl, ?_⟩) (by assumption) ?_
      rotate_left
      · (intro w hSw; (try dsimp only at hSw); go_simp; all_goals (with_reducible rfl))
      simp only [Act.put, List.setIfInBounds_toArray, List.set_cons_zero, List.set_cons_succ]
      refine anyL_take (i := 5) (v := ?_) rfl (by kernel_rfl) (by kernel_rfl) (by kernel_rfl) (by kernel_rfl) (fun _ _ _ h => h) (Or.inl ⟨by rfl, ?_⟩) (by assumption) ?_
      rotate_left
      · (intro w hSw; (try dsimp only at hSw); go_simp; all_goals (with_reducible rfl))
      simp only [Act.put, List.setIfInBounds_toArray, List.set_cons_zero, List.set_cons_succ]
      refine anyL_take (i := 6) (v := ?_) rfl (by kernel_rfl) (by kernel_rfl) (by kernel_rfl) (by kernel_rfl) (fun _ _ _ h => h) (Or.inl ⟨by rfl, ?_⟩) (by assumption) ?_
      rotate_left
      · (intro w hSw; (try dsimp only at hSw); go_simp; all_goals (with_reducible rfl))
      simp only [Act.put, List.setIfInBounds_toArray, List.set_cons_zero, List.set_cons_succ]
      refine anyL_take (i := 7) (v := ?_) rfl (by kernel_rfl) (by kernel_rfl) (by kernel_rfl) (by kernel_rfl) (fun _ _ _ h => h) (Or.inl ⟨by rfl, ?_⟩) (by assumption) ?_
      rotate_left
      · (intro w hSw; (try dsimp only at hSw); go_simp; all_goals (with_reducible rfl))
      simp only [Act.put, List.setIfInBounds_toArray, List.set_cons_zero, List.set_cons_succ]
      refine anyL_take (i := 8) (v := ?_) rfl (by kernel_rfl) (by kernel_rfl) (by kernel_rfl) (by kernel_rfl) (fun _ _ _ h => h) (Or.inl ⟨by rfl, ?_⟩) (by assumption) ?_
      rotate_left
      · (intro w hSw; (try dsimp only at hSw); go_simp; all_goals (with_reducible rfl))
      simp only [Act.put, List.setIfInBounds_toArray, List.set_cons_zero, List.set_cons_succ]
      refine anyL_take (i := 9) (v := ?_) rfl (by kernel_rfl) (by kernel_rfl) (by kernel_rfl) (by kernel_rfl) (fun _ _ _ h => h) (Or.inl ⟨by rfl, ?_⟩) (by assumption) ?_
      rotate_left
      · (intro w hSw; (try dsimp only at hSw); go_simp; all_goals (with_reducible rfl))
      simp only [Act.put, List.setIfInBounds_toArray, List.set_cons_zero, List.set_cons_succ]
      refine anyL_take (i := 10) (v := ?_) rfl (by kernel_rfl) (by kernel_rfl) (by kernel_rfl) (by kernel_rfl) (fun _ _ _ h => h) (Or.inl ⟨by rfl, ?_⟩) (by assumption) ?_
      rotate_left
      · (intro w hSw; (try dsimp only at hSw); go_simp; all_goals (with_reducible rfl))
      simp only [Act.put, List.setIfInBounds_toArray, List.set_cons_zero, List.set_cons_succ]
      refine anyL_take (i := 11) (v := ?_) rfl (by kernel_rfl) (by kernel_rfl) (by kernel_rfl) (by kernel_rfl) (fun _ _ _ h => h) (Or.inl ⟨by rfl, ?_⟩) (by assumption) ?_
      rotate_left
      · (intro w hSw; (try dsimp only at hSw); go_simp; all_goals (with_reducible rfl))
      simp only [Act.put, List.setIfInBounds_toArray, List.set_cons_zero, List.set_cons_succ]
      refine anyL_take (i := 13) (v := ?_) rfl (by kernel_rfl) (by kernel_rfl) (by kernel_rfl) (by kernel_rfl) (fun _ _ _ h => h) (Or.inl ⟨by rfl, ?_⟩) (by assumption) ?_
      rotate_left
      · (intro w hSw; (try dsimp only at hSw); go_simp; all_goals (with_reducible rfl))
      simp only [Act.put, List.setIfInBounds_toArray, List.set_cons_zero, List.set_cons_succ]
      refine anyL_take (i := 14) (v := ?_) rfl (by kernel_rfl) (by kernel_rfl) (by kernel_rfl) (by kernel_rfl) (fun _ _ _ h => h) (Or.inl ⟨by rfl, ?_⟩) (by assumption) ?_
      rotate_left
      · (intro w hSw; (try dsimp only at hSw); go_simp; all_goals (with_reducible rfl))
      simp only [Act.put, List.setIfInBounds_toArray, List.set_cons_zero, List.set_cons_succ]
      refine anyL_take (i := 15) (v := ?_) rfl (by kernel_rfl) (by kernel_rfl) (by kernel_rfl) (by kernel_rfl) (fun _ _ _ h => h) (Or.inl ⟨by rfl, ?_⟩) (by assumption) ?_
      rotate_left
      · (intro w hSw; (try dsimp only at hSw); go_simp; all_goals (with_reducible rfl))
      simp only [Act.put, List.setIfInBounds_toArray, List.set_cons_zero, List.set_cons_succ]
      refine anyL_take (i := 16) (v := ?_) rfl (by kernel_rfl) (by kernel_rfl) (by kernel_rfl) (by kernel_rfl) (fun _ _ _ h => h) (Or.inl ⟨by rfl, ?_⟩) (by assumption) ?_
      rotate_left
      · (intro w hSw; (try dsimp only at hSw); go_simp; all_goals (with_reducible rfl))
      simp only [Act.put, List.setIfInBounds_toArray, List.set_cons_zero, List.set_cons_succ]
      refine anyL_take (i := 17) (v := ?_) rfl (by kernel_rfl) (by kernel_rfl) (by kernel_rfl) (by kernel_rfl) (fun _ _ _ h => h) (Or.inl ⟨by rfl, ?_⟩) (by assumption) ?_
      rotate_left
      · (intro w hSw; (try dsimp only at hSw); go_simp; all_goals (with_reducible rfl))
      simp only [Act.put, List.setIfInBounds_toArray, List.set_cons_zero, List.set_cons_succ]
      refine anyL_take (i := 18) (v := ?_) rfl (by kernel_rfl) (by kernel_rfl) (by kernel_rfl) (by kernel_rfl) (fun _ _ _ h => h) (Or.inl ⟨by rfl, ?_⟩) (by assumption) ?_
      rotate_left
      · (intro w hSw; (try dsimp only at hSw); go_simp; all_goals (with_reducible rfl))
      simp only [Act.put, List.setIfInBounds_toArray, List.set_cons_zero, List.set_cons_succ]
      refine anyL_take (i := 19) (v := ?_) rfl (by kernel_rfl) (by kernel_rfl) (by kernel_rfl) (by kernel_rfl) (fun _ _ _ h => h) (Or.inl ⟨by rfl, ?_⟩) (by assumption) ?_
      rotate_left
      · (intro w hSw; (try dsimp only at hSw); go_simp; all_goals (with_reducible rfl))
      simp only [Act.put, List.setIfInBounds_toArray, List.set_cons_zero, List.set_cons_succ]
      refine anyL_one (i := 12) rfl (by kernel_rfl) (fun K hK => ?_)
      go_simp
      refine (mulMod_any _ _ pa la _).mono ?_
      rintro e w' ⟨rfl, rfl⟩
      dsimp only
      refine hK.out _ _ (fun _ => hHeld) (fun _ => ?_)
      clear hK K
      try simp only [Act.put, List.setIfInBounds_toArray, List.set_cons_zero, List.set_cons_succ]
      refine anyL_one (i := 20) rfl (by kernel_rfl) (fun K hK => ?_)
      go_simp
      refine (mulMod_any _ _ pb lb _).mono ?_
      rintro e w' ⟨rfl, rfl⟩
      dsimp only
      refine hK.out _ _ (fun _ => hHeld) (fun _ => ?_)
      clear hK K
      try simp only [Act.put, List.setIfInBounds_toArray, List.set_cons_zero, List.set_cons_succ]
      refine anyL_take (i := 21) (v := ?_) rfl (by kernel_rfl) (by kernel_rfl) (by kernel_rfl) (by kernel_rfl) (fun _ _ _ h => h) (Or.inl ⟨by rfl, ?_⟩) (by assumption) ?_
      rotate_left
      · (intro w hSw; (try dsimp only at hSw); go_simp; all_goals (with_reducible rfl))
      simp only [Act.put, List.setIfInBounds_toArray, List.set_cons_zero, List.set_cons_succ]
      refine anyL_one (i := 22) rfl (by kernel_rfl) (fun K hK => ?_)
      go_simp
      refine hK.out _ _ (fun _ => by (simp [*, World.cell?_alloc_some, frozen?_alloc_cells])) (fun hHeld => ?_)
      clear hK K
      try simp only [Act.put, List.setIfInBounds_toArray, List.set_cons_zero, List.set_cons_succ]
      refine anyL_one (i := 23) rfl (by kernel_rfl) (fun K hK => ?_)
      refine step_append_lies _ (by rfl) (.tmp 29) (.tmp 47) 29 (by rfl) 0 36 i0 (.agg #[.int .u64 0, .int .u64 0]) 2 16 Yba.underlying29 hi hz0 hz1 hz2 rfl (by decide) (.slice (some ⟨g', 0, none⟩) (n' + 1) cap') (n' + 1) (fpCells (powL a b n')) (by rfl) (by exact (HF.out.below' (below_two _ _ _)).own) ⟨wr.heap.size + 1, 0, none⟩ 1 1 [.int .u64 (mm (pw a n') a : Nat), .int .u64 (mm (pw b n') b : Nat)] (by rfl) (by rfl) (by exact World.news_of_block (two_new _ _ _)) (by intro u hu; simp at hu; rcases hu with rfl | rfl <;> rfl) (by omega) (by unfold maxLen; omega) (by omega) (Nat.zero_le _) _ rfl ?_
      intro g2 cap2 w2 hown2 hgrow hat hlt2
      have hS2 : (fun w' => w'.cell? ⟨B, 0, none⟩ = some (.int .u64 a) ∧ w'.cell? ⟨B, 1, none⟩ = some (.int .u64 b) ∧ w'.cell? ⟨B, 2, none⟩ = some (.slice (some ⟨g', 0, none⟩) (n' + 1) cap') ∧ w'.cell? ⟨wr.heap.size, 0, none⟩ = some (.int .u64 (pw a n' : Nat)) ∧ w'.cell? ⟨wr.heap.size, 1, none⟩ = some (.int .u64 (pw b n' : Nat)) ∧ w'.frozen? ⟨B, 2, none⟩ = false) w2 := keep_grown hne lBw lgw (hHeld (by decide)) hgrow
      refine hK.out _ _ (fun _ => hS2) (fun _ => ?_)
      clear hK K hHeld
      dsimp only at hS2
      obtain ⟨s0, s1, s2, s3, s4, s5⟩ := hS2
      try simp only [Act.put, List.setIfInBounds_toArray, List.set_cons_zero, List.set_cons_succ]
      refine anyL_one (i := 24) rfl (by kernel_rfl) (fun K hK => ?_)
      go_simp
      refine hK.out _ _ (fun _ => ⟨s0, s1, s2, s3, s4, s5⟩) (fun _ => ?_)
      clear hK K
      try simp only [Act.put, List.setIfInBounds_toArray, List.set_cons_zero, List.set_cons_succ]
      refine anyL_one (i := 25) rfl (by kernel_rfl) (fun K hK => ?_)
      go_simp
      refine hK.out _ _ (fun _ => ⟨s0, s1, s2, s3, s4, s5⟩) (fun _ => ?_)
      clear hK K
      try simp only [Act.put, List.setIfInBounds_toArray, List.set_cons_zero, List.set_cons_succ]
      refine anyL_one (i := 26) rfl (by kernel_rfl) (fun K hK => ?_)
      go_simp
      refine hK.out _ _ (fun h => absurd rfl h) (fun _ => ?_)
      clear hK K
      refine anyL_done (by kernel_rfl) ?_ _
      refine NoPanic.normal ?_
      have R := fpr_next HF.out (below_two _ _ _) hown2 hgrow hat
      clear hown2 hgrow hat s0 s1 s2 s3 s4 s5
      go_wp2
      go_roundg (gk - 1)
      case measure => omega
      case rel =>
        obtain ⟨r1, r2, r3⟩ := R
        have hsz := HB.out.size
        simp at hsz
        refine ⟨g2, cap2, n' + 1, r1, by omega, ?_, HB.out.trans r2 ?_, by omega⟩
        · have := HG.out; omega
        · have := HG.out; simp; omega
    · have hlB := hF.ltB
      have hlg := hF.ltg
      have hres : wr.heap[w.heap.size]? = some (.cells #[.int .u64 0, .int .u64 0] 36 (0, 0)) := by
        rw [hbut.block w.heap.size (by simp) (by omega) (by omega)]
        exact heap_alloc_new w _
      have s0 : wr.cell? ⟨w.heap.size, 0, none⟩ = some (.int .u64 0) := cell_of_block hres 0
      have s1 : wr.cell? ⟨w.heap.size, 1, none⟩ = some (.int .u64 0) := cell_of_block hres 1
      have s2 : wr.frozen? ⟨w.heap.size, 0, none⟩ = false := frozen_of_block hres
      have s3 : wr.frozen? ⟨w.heap.size, 1, none⟩ = false := frozen_of_block hres
      have m0 := hF'.cellA (k := m) (by omega)
      have m1 := hF'.cellB (k := m) (by omega)
      have hmn : (m : Int) < n' + 1 := by omega
      have HB : Hid (But B g (w.alloc (.cells #[.int .u64 0, .int .u64 0] 36)) wr) := hbut
      have HF : Hid (Fpr wr B g' cap' a b n') := hF'
      have HG : Hid (g' = g ∨ w.heap.size < g') := hg'
      have HR : Hid (wr.heap[w.heap.size]? = some (.cells #[.int .u64 0, .int .u64 0] 36 (0, 0))) := hres
      have HN : Hid (B ≠ w.heap.size ∧ g' ≠ w.heap.size) := ⟨by omega, by omega⟩
      clear hbut hF' hg' hres q0 q1 hlB hlg hlt
      go_wp2
      obtain ⟨t0, t1⟩ := pair_stored HR.out (.int .u64 (pw a m : Nat)) (.int .u64 (pw b m : Nat))
      refine bodyPost_ret (v := .agg #[.int .u64 (pw a m : Nat), .int .u64 (pw b m : Nat)]) (by simp [results, Yba.results21, go_sem, t0, t1]) rfl ⟨rfl, g', cap', n', HF.out.same ?_ ?_, hn', ?_, ?_⟩
      · rw [heap_setCell_other _ _ _ _ (by exact HN.out.1), heap_setCell_other _ _ _ _ (by exact HN.out.1)]
      · rw [heap_setCell_other _ _ _ _ (by exact HN.out.2), heap_setCell_other _ _ _ _ (by exact HN.out.2)]
      · have := HG.out; omega
      · exact ((But.of_then ((Below.refl _ _).alloc (Nat.le_refl _) _) HB.out).setCell (.inr (.inr (Nat.le_refl _))) _).setCell (.inr (.inr (Nat.le_refl _))) _

#print axioms power_any
end Go.Proofs.Ybulkese
