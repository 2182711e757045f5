/-
  (*explanation).add: the walk. (The two statements that draw their order: written by a generator.)
-/
import Derived.Test.YbulkfeaTakeWalk
import Derived.Test.YbulkfeaHeldLast
namespace Go.Proofs.Ybulkfea
open Go.RowKit
set_option linter.unusedSimpArgs false

variable {φ : Nat → Prop} {w : World} {A : Nat} {rule : Int} {tr : Bool} {hv fv : Value} {n m : Nat} {hs : List H1} {fs : List Int}

set_option maxRecDepth 20000 in
set_option maxHeartbeats 2000000 in
theorem add_any (h : Ex φ w A rule tr hv fv n m hs fs) (hφ : ∀ k, w.heap.size ≤ k → φ k) (q : Nat) (s : ByteArray) (v : Int)
    (hq : φ q) (hp : w.heap[q]? = some (.cells #[.iface 9 (.string s)] 20 (0, 0))) (hn : (n : Int) ≤ 2000) (hm : (m : Int) ≤ 2000) :
    Calls Yba.prog 7 #[.pointer (some ⟨A, 0, none⟩), .agg #[.slice (some ⟨q, 0, none⟩) 1 1, .iface 2 (.int .i64 v)]] w (ExPost φ w A rule tr n m (hs ++ [⟨q, s, v⟩]) fs rule) := by
  obtain ⟨i33, hi33, hz33, hs33, hb33⟩ := info_parts info33
  obtain ⟨i3, hi3, hz3, hs3, hb3⟩ := info_parts info3
  obtain ⟨c0, c1, c2, c3, cz⟩ := h.cells
  have z0 := cz 0
  have F1 : Fr (fun _ => False) w ((w.alloc (.cells #[.slice (some ⟨q, 0, none⟩) 1 1, .iface 2 (.int .i64 v)] 33)).alloc (.cells #[.slice (some ⟨q, 0, none⟩) 1 1, .iface 2 (.int .i64 v)] 33)).drew := (((Fr.refl _ w).alloc _).alloc _).drew
  have HE1 : Hid (Ex φ ((w.alloc (.cells #[.slice (some ⟨q, 0, none⟩) 1 1, .iface 2 (.int .i64 v)] 33)).alloc (.cells #[.slice (some ⟨q, 0, none⟩) 1 1, .iface 2 (.int .i64 v)] 33)).drew A rule tr hv fv n m hs fs) := h.fr F1 (fun _ _ h => h)
  have HFr1 : Hid (Fr φ w ((w.alloc (.cells #[.slice (some ⟨q, 0, none⟩) 1 1, .iface 2 (.int .i64 v)] 33)).alloc (.cells #[.slice (some ⟨q, 0, none⟩) 1 1, .iface 2 (.int .i64 v)] 33)).drew) := F1.mono (fun _ _ h => h.elim)
  have HF1 : Hid (∀ k, ((w.alloc (.cells #[.slice (some ⟨q, 0, none⟩) 1 1, .iface 2 (.int .i64 v)] 33)).alloc (.cells #[.slice (some ⟨q, 0, none⟩) 1 1, .iface 2 (.int .i64 v)] 33)).drew.heap.size ≤ k → φ k) := fun k hk => hφ k (Nat.le_trans F1.size hk)
  have HP1 : Hid (((w.alloc (.cells #[.slice (some ⟨q, 0, none⟩) 1 1, .iface 2 (.int .i64 v)] 33)).alloc (.cells #[.slice (some ⟨q, 0, none⟩) 1 1, .iface 2 (.int .i64 v)] 33)).drew.heap[q]? = some (.cells #[.iface 9 (.string s)] 20 (0, 0))) := by
    rw [F1.block q (heap_lt hp) (fun h => h)]; exact hp
  have HN1 : Hid (((w.alloc (.cells #[.slice (some ⟨q, 0, none⟩) 1 1, .iface 2 (.int .i64 v)] 33)).alloc (.cells #[.slice (some ⟨q, 0, none⟩) 1 1, .iface 2 (.int .i64 v)] 33)).drew.heap[w.heap.size + 1]? = some (.cells #[.slice (some ⟨q, 0, none⟩) 1 1, .iface 2 (.int .i64 v)] 33 (0, 0))) :=
    (show w.heap.size + 1 = (w.alloc (.cells #[.slice (some ⟨q, 0, none⟩) 1 1, .iface 2 (.int .i64 v)] 33)).heap.size by simp) ▸ heap_alloc_new (w.alloc (.cells #[.slice (some ⟨q, 0, none⟩) 1 1, .iface 2 (.int .i64 v)] 33)) (.cells #[.slice (some ⟨q, 0, none⟩) 1 1, .iface 2 (.int .i64 v)] 33)
  have HNN : Hid (some w.heap.size ≠ hv.ownBlock) := fun e => by have := (h.hown.lt _ e.symm).2; omega
  have HF : Hid (∀ k, w.heap.size ≤ k → φ k) := hφ
  have HQ : Hid (φ q) := hq
  clear h hp hφ hq cz F1
  cases tr with
  | false =>
    go_enter Yba.func7, Yba.ntmps7
    go_wp2
    refine wp_region_noPanic ?_
    refine wp_region_L (fun w' => w'.cell? ⟨A, 0, none⟩ = some hv ∧ w'.cell? ⟨w.heap.size, 0, none⟩ = some (.slice (some ⟨q, 0, none⟩) 1 1) ∧ w'.cell? ⟨w.heap.size, 1, none⟩ = some (.iface 2 (.int .i64 v)) ∧ w'.frozen? ⟨A, 0, none⟩ = false) 10 (by kernel_rfl) (by (simp [*, World.cell?_alloc_some, frozen?_alloc_cells, World.cell?_alloc_at])) (fun hHeld => ?_)
    refine anyL_take (i := 0) (v := ?_) rfl (by kernel_rfl) (by kernel_rfl) (by kernel_rfl) (by kernel_rfl) (fun _ _ _ h => h) (Or.inl ⟨by rfl, ?_⟩) (by assumption) ?_
    rotate_left
    · (intro w hSw; (try dsimp only at hSw); go_simp; all_goals (with_reducible rfl))
    simp only [Act.put, List.setIfInBounds_toArray, List.set_cons_zero, List.set_cons_succ]
    refine anyL_take (i := 1) (v := ?_) rfl (by kernel_rfl) (by kernel_rfl) (by kernel_rfl) (by kernel_rfl) (fun _ _ _ h => h) (Or.inl ⟨by rfl, ?_⟩) (by assumption) ?_
    rotate_left
    · (intro w hSw; (try dsimp only at hSw); go_simp; all_goals (with_reducible rfl))
    simp only [Act.put, List.setIfInBounds_toArray, List.set_cons_zero, List.set_cons_succ]
    refine anyL_take (i := 2) (v := ?_) rfl (by kernel_rfl) (by kernel_rfl) (by kernel_rfl) (by kernel_rfl) (fun _ _ _ h => h) (Or.inl ⟨by rfl, ?_⟩) (by assumption) ?_
    rotate_left
    · (intro w hSw; (try dsimp only at hSw); go_simp; all_goals (with_reducible rfl))
    simp only [Act.put, List.setIfInBounds_toArray, List.set_cons_zero, List.set_cons_succ]
    refine anyL_take (i := 3) (v := ?_) rfl (by kernel_rfl) (by kernel_rfl) (by kernel_rfl) (by kernel_rfl) (fun _ _ _ h => h) (Or.inl ⟨by rfl, ?_⟩) (by assumption) ?_
    rotate_left
    · (intro w hSw; (try dsimp only at hSw); go_simp; all_goals (with_reducible rfl))
    simp only [Act.put, List.setIfInBounds_toArray, List.set_cons_zero, List.set_cons_succ]
    refine anyL_take (i := 4) (v := ?_) rfl (by kernel_rfl) (by kernel_rfl) (by kernel_rfl) (by kernel_rfl) (fun _ _ _ h => h) (Or.inl ⟨by rfl, ?_⟩) (by assumption) ?_
    rotate_left
    · (intro w hSw; (try dsimp only at hSw); go_simp; all_goals (with_reducible rfl))
    simp only [Act.put, List.setIfInBounds_toArray, List.set_cons_zero, List.set_cons_succ]
    refine anyL_take (i := 5) (v := ?_) rfl (by kernel_rfl) (by kernel_rfl) (by kernel_rfl) (by kernel_rfl) (fun _ _ _ h => h) (Or.inl ⟨by rfl, ?_⟩) (by assumption) ?_
    rotate_left
    · (intro w hSw; (try dsimp only at hSw); go_simp; all_goals (with_reducible rfl))
    simp only [Act.put, List.setIfInBounds_toArray, List.set_cons_zero, List.set_cons_succ]
    refine anyL_one (i := 6) rfl (by kernel_rfl) (fun K hK => ?_)
    go_simp
    refine hK.out _ _ (fun _ => by (simp [*, World.cell?_alloc_some, frozen?_alloc_cells])) (fun hHeld2 => ?_)
    clear hK K
    try simp only [Act.put, List.setIfInBounds_toArray, List.set_cons_zero, List.set_cons_succ]
    refine anyL_one (i := 7) rfl (by kernel_rfl) (fun K hK => ?_)
    refine step_append_lies _ (by rfl) (.tmp 8) (.tmp 10) 25 (by rfl) 0 33 i33 (.agg #[.slice none 0 0, .nilIface]) 2 40 Yba.underlying25 hi33 hz33 hs33 hb33 rfl (by decide) hv n (hitCells hs) (by rfl) (by exact HE1.out.hown) ⟨w.heap.size + 1, 0, none⟩ 1 1 [.slice (some ⟨q, 0, none⟩) 1 1, .iface 2 (.int .i64 v)] (by rfl) (by rfl) (by exact World.news_of_block HN1.out) two_cells (by omega) (by unfold maxLen; omega) (by omega) (Nat.zero_le _) _ rfl ?_
    intro g1 cap1 w1 hown1 hgrow hat hlt1
    have HR : Hid _ := HE1.out.addHit (x := ⟨q, s, v⟩) HF1.out hown1 hgrow hat HQ.out HP1.out
    obtain ⟨m0, m1, m2, m3, m4, m5⟩ := HE1.out.midHit hgrow
    have hS2 : (fun w' => w'.cell? ⟨A, 0, none⟩ = some hv ∧ w'.cell? ⟨w.heap.size, 0, none⟩ = some (.slice (some ⟨q, 0, none⟩) 1 1) ∧ w'.cell? ⟨w.heap.size, 1, none⟩ = some (.iface 2 (.int .i64 v)) ∧ w'.frozen? ⟨A, 0, none⟩ = false) w1 := ⟨m0, hgrow.cell (hHeld2 (by decide)).2.1 HNN.out, hgrow.cell (hHeld2 (by decide)).2.2.1 HNN.out, m4⟩
    refine hK.out _ _ (fun _ => hS2) (fun _ => ?_)
    clear hK K hHeld hHeld2 hown1 hgrow hat hlt1
    dsimp only at hS2
    obtain ⟨_, n1, n2, _⟩ := hS2
    try simp only [Act.put, List.setIfInBounds_toArray, List.set_cons_zero, List.set_cons_succ]
    refine anyL_one (i := 8) rfl (by kernel_rfl) (fun K hK => ?_)
    go_simp
    refine hK.out _ _ (fun _ => ⟨m0, n1, n2, m4⟩) (fun _ => ?_)
    clear hK K
    try simp only [Act.put, List.setIfInBounds_toArray, List.set_cons_zero, List.set_cons_succ]
    refine anyL_one (i := 9) rfl (by kernel_rfl) (fun K hK => ?_)
    go_simp
    refine hK.out _ _ (fun _ => ⟨m0, n1, n2, m4⟩) (fun _ => ?_)
    clear hK K
    try simp only [Act.put, List.setIfInBounds_toArray, List.set_cons_zero, List.set_cons_succ]
    refine anyL_one (i := 10) rfl (by kernel_rfl) (fun K hK => ?_)
    go_simp
    refine hK.out _ _ (fun h => absurd rfl h) (fun _ => ?_)
    clear hK K
    refine anyL_done (by kernel_rfl) ?_ _
    refine NoPanic.normal ?_
    obtain ⟨w3, hw3⟩ : ∃ w3, w3 = w1.setCell ⟨A, 0, none⟩ (.slice (some ⟨g1, 0, none⟩) (n + 1) cap1) := ⟨_, rfl⟩
    rw [← hw3] at HR
    rw [← hw3]
    clear hw3 m0 m1 m2 m3 m4 m5 n1 n2
    obtain ⟨d0, d1, d2, d3, dz⟩ := HR.out.1.cells
    have dz3 := dz 3
    clear dz d0 c0 c1 c2 c3 z0
    go_wp2
    go_end0
    exact ⟨rfl, _, _, HR.out.1, HFr1.out.trans HR.out.2⟩
  | true =>
    go_enter Yba.func7, Yba.ntmps7
    go_wp2
    refine wp_region_noPanic ?_
    refine wp_region_L (fun w' => w'.cell? ⟨A, 0, none⟩ = some hv ∧ w'.cell? ⟨w.heap.size, 0, none⟩ = some (.slice (some ⟨q, 0, none⟩) 1 1) ∧ w'.cell? ⟨w.heap.size, 1, none⟩ = some (.iface 2 (.int .i64 v)) ∧ w'.frozen? ⟨A, 0, none⟩ = false) 10 (by kernel_rfl) (by (simp [*, World.cell?_alloc_some, frozen?_alloc_cells, World.cell?_alloc_at])) (fun hHeld => ?_)
    refine anyL_take (i := 0) (v := ?_) rfl (by kernel_rfl) (by kernel_rfl) (by kernel_rfl) (by kernel_rfl) (fun _ _ _ h => h) (Or.inl ⟨by rfl, ?_⟩) (by assumption) ?_
    rotate_left
    · (intro w hSw; (try dsimp only at hSw); go_simp; all_goals (with_reducible rfl))
    simp only [Act.put, List.setIfInBounds_toArray, List.set_cons_zero, List.set_cons_succ]
    refine anyL_take (i := 1) (v := ?_) rfl (by kernel_rfl) (by kernel_rfl) (by kernel_rfl) (by kernel_rfl) (fun _ _ _ h => h) (Or.inl ⟨by rfl, ?_⟩) (by assumption) ?_
    rotate_left
    · (intro w hSw; (try dsimp only at hSw); go_simp; all_goals (with_reducible rfl))
    simp only [Act.put, List.setIfInBounds_toArray, List.set_cons_zero, List.set_cons_succ]
    refine anyL_take (i := 2) (v := ?_) rfl (by kernel_rfl) (by kernel_rfl) (by kernel_rfl) (by kernel_rfl) (fun _ _ _ h => h) (Or.inl ⟨by rfl, ?_⟩) (by assumption) ?_
    rotate_left
    · (intro w hSw; (try dsimp only at hSw); go_simp; all_goals (with_reducible rfl))
    simp only [Act.put, List.setIfInBounds_toArray, List.set_cons_zero, List.set_cons_succ]
    refine anyL_take (i := 3) (v := ?_) rfl (by kernel_rfl) (by kernel_rfl) (by kernel_rfl) (by kernel_rfl) (fun _ _ _ h => h) (Or.inl ⟨by rfl, ?_⟩) (by assumption) ?_
    rotate_left
    · (intro w hSw; (try dsimp only at hSw); go_simp; all_goals (with_reducible rfl))
    simp only [Act.put, List.setIfInBounds_toArray, List.set_cons_zero, List.set_cons_succ]
    refine anyL_take (i := 4) (v := ?_) rfl (by kernel_rfl) (by kernel_rfl) (by kernel_rfl) (by kernel_rfl) (fun _ _ _ h => h) (Or.inl ⟨by rfl, ?_⟩) (by assumption) ?_
    rotate_left
    · (intro w hSw; (try dsimp only at hSw); go_simp; all_goals (with_reducible rfl))
    simp only [Act.put, List.setIfInBounds_toArray, List.set_cons_zero, List.set_cons_succ]
    refine anyL_take (i := 5) (v := ?_) rfl (by kernel_rfl) (by kernel_rfl) (by kernel_rfl) (by kernel_rfl) (fun _ _ _ h => h) (Or.inl ⟨by rfl, ?_⟩) (by assumption) ?_
    rotate_left
    · (intro w hSw; (try dsimp only at hSw); go_simp; all_goals (with_reducible rfl))
    simp only [Act.put, List.setIfInBounds_toArray, List.set_cons_zero, List.set_cons_succ]
    refine anyL_one (i := 6) rfl (by kernel_rfl) (fun K hK => ?_)
    go_simp
    refine hK.out _ _ (fun _ => by (simp [*, World.cell?_alloc_some, frozen?_alloc_cells])) (fun hHeld2 => ?_)
    clear hK K
    try simp only [Act.put, List.setIfInBounds_toArray, List.set_cons_zero, List.set_cons_succ]
    refine anyL_one (i := 7) rfl (by kernel_rfl) (fun K hK => ?_)
    refine step_append_lies _ (by rfl) (.tmp 8) (.tmp 10) 25 (by rfl) 0 33 i33 (.agg #[.slice none 0 0, .nilIface]) 2 40 Yba.underlying25 hi33 hz33 hs33 hb33 rfl (by decide) hv n (hitCells hs) (by rfl) (by exact HE1.out.hown) ⟨w.heap.size + 1, 0, none⟩ 1 1 [.slice (some ⟨q, 0, none⟩) 1 1, .iface 2 (.int .i64 v)] (by rfl) (by rfl) (by exact World.news_of_block HN1.out) two_cells (by omega) (by unfold maxLen; omega) (by omega) (Nat.zero_le _) _ rfl ?_
    intro g1 cap1 w1 hown1 hgrow hat hlt1
    have HR : Hid _ := HE1.out.addHit (x := ⟨q, s, v⟩) HF1.out hown1 hgrow hat HQ.out HP1.out
    obtain ⟨m0, m1, m2, m3, m4, m5⟩ := HE1.out.midHit hgrow
    have hS2 : (fun w' => w'.cell? ⟨A, 0, none⟩ = some hv ∧ w'.cell? ⟨w.heap.size, 0, none⟩ = some (.slice (some ⟨q, 0, none⟩) 1 1) ∧ w'.cell? ⟨w.heap.size, 1, none⟩ = some (.iface 2 (.int .i64 v)) ∧ w'.frozen? ⟨A, 0, none⟩ = false) w1 := ⟨m0, hgrow.cell (hHeld2 (by decide)).2.1 HNN.out, hgrow.cell (hHeld2 (by decide)).2.2.1 HNN.out, m4⟩
    refine hK.out _ _ (fun _ => hS2) (fun _ => ?_)
    clear hK K hHeld hHeld2 hown1 hgrow hat hlt1
    dsimp only at hS2
    obtain ⟨_, n1, n2, _⟩ := hS2
    try simp only [Act.put, List.setIfInBounds_toArray, List.set_cons_zero, List.set_cons_succ]
    refine anyL_one (i := 8) rfl (by kernel_rfl) (fun K hK => ?_)
    go_simp
    refine hK.out _ _ (fun _ => ⟨m0, n1, n2, m4⟩) (fun _ => ?_)
    clear hK K
    try simp only [Act.put, List.setIfInBounds_toArray, List.set_cons_zero, List.set_cons_succ]
    refine anyL_one (i := 9) rfl (by kernel_rfl) (fun K hK => ?_)
    go_simp
    refine hK.out _ _ (fun _ => ⟨m0, n1, n2, m4⟩) (fun _ => ?_)
    clear hK K
    try simp only [Act.put, List.setIfInBounds_toArray, List.set_cons_zero, List.set_cons_succ]
    refine anyL_one (i := 10) rfl (by kernel_rfl) (fun K hK => ?_)
    go_simp
    refine hK.out _ _ (fun h => absurd rfl h) (fun _ => ?_)
    clear hK K
    refine anyL_done (by kernel_rfl) ?_ _
    refine NoPanic.normal ?_
    obtain ⟨w3, hw3⟩ : ∃ w3, w3 = w1.setCell ⟨A, 0, none⟩ (.slice (some ⟨g1, 0, none⟩) (n + 1) cap1) := ⟨_, rfl⟩
    rw [← hw3] at HR
    rw [← hw3]
    clear hw3 m0 m1 m2 m3 m4 m5 n1 n2
    obtain ⟨d0, d1, d2, d3, dz⟩ := HR.out.1.cells
    have dz3 := dz 3
    clear dz d0 c0 c1 c2 c3 z0
    go_wp2
    have F3 : Fr (fun _ => False) w3 (w3.alloc (.cells #[.int .i64 rule] 3)).drew := ((Fr.refl _ w3).alloc _).drew
    have HE3 : Hid (Ex φ (w3.alloc (.cells #[.int .i64 rule] 3)).drew A rule true (.slice (some ⟨g1, 0, none⟩) (n + 1) cap1) fv (n + 1) m (hs ++ [⟨q, s, v⟩]) fs ∧ Fr φ w (w3.alloc (.cells #[.int .i64 rule] 3)).drew) :=
      ⟨HR.out.1.fr F3 (fun _ _ h => h), (HFr1.out.trans HR.out.2).trans (F3.mono (fun _ _ h => h.elim))⟩
    have HN3 : Hid ((w3.alloc (.cells #[.int .i64 rule] 3)).drew.heap[w3.heap.size]? = some (.cells #[.int .i64 rule] 3 (0, 0))) := heap_alloc_new w3 (.cells #[.int .i64 rule] 3)
    clear F3
    refine wp_region_noPanic ?_
    refine wp_region_L (fun w' => w'.cell? ⟨A, 3, none⟩ = some fv ∧ w'.cell? ⟨A, 1, none⟩ = some (.int .i64 rule) ∧ w'.frozen? ⟨A, 3, none⟩ = false) 13 (by kernel_rfl) (by (simp [*])) (fun hHeld => ?_)
    refine anyL_take (i := 0) (v := ?_) rfl (by kernel_rfl) (by kernel_rfl) (by kernel_rfl) (by kernel_rfl) (fun _ _ _ h => h) (Or.inl ⟨by rfl, ?_⟩) (by assumption) ?_
    rotate_left
    · (intro w hSw; (try dsimp only at hSw); go_simp; all_goals (with_reducible rfl))
    simp only [Act.put, List.setIfInBounds_toArray, List.set_cons_zero, List.set_cons_succ]
    refine anyL_take (i := 1) (v := ?_) rfl (by kernel_rfl) (by kernel_rfl) (by kernel_rfl) (by kernel_rfl) (fun _ _ _ h => h) (Or.inl ⟨by rfl, ?_⟩) (by assumption) ?_
    rotate_left
    · (intro w hSw; (try dsimp only at hSw); go_simp; all_goals (with_reducible rfl))
    simp only [Act.put, List.setIfInBounds_toArray, List.set_cons_zero, List.set_cons_succ]
    refine anyL_take (i := 2) (v := ?_) rfl (by kernel_rfl) (by kernel_rfl) (by kernel_rfl) (by kernel_rfl) (fun _ _ _ h => h) (Or.inl ⟨by rfl, ?_⟩) (by assumption) ?_
    rotate_left
    · (intro w hSw; (try dsimp only at hSw); go_simp; all_goals (with_reducible rfl))
    simp only [Act.put, List.setIfInBounds_toArray, List.set_cons_zero, List.set_cons_succ]
    refine anyL_take (i := 3) (v := ?_) rfl (by kernel_rfl) (by kernel_rfl) (by kernel_rfl) (by kernel_rfl) (fun _ _ _ h => h) (Or.inl ⟨by rfl, ?_⟩) (by assumption) ?_
    rotate_left
    · (intro w hSw; (try dsimp only at hSw); go_simp; all_goals (with_reducible rfl))
    simp only [Act.put, List.setIfInBounds_toArray, List.set_cons_zero, List.set_cons_succ]
    refine anyL_take (i := 4) (v := ?_) rfl (by kernel_rfl) (by kernel_rfl) (by kernel_rfl) (by kernel_rfl) (fun _ _ _ h => h) (Or.inl ⟨by rfl, ?_⟩) (by assumption) ?_
    rotate_left
    · (intro w hSw; (try dsimp only at hSw); go_simp; all_goals (with_reducible rfl))
    simp only [Act.put, List.setIfInBounds_toArray, List.set_cons_zero, List.set_cons_succ]
    refine anyL_take (i := 5) (v := ?_) rfl (by kernel_rfl) (by kernel_rfl) (by kernel_rfl) (by kernel_rfl) (fun _ _ _ h => h) (Or.inl ⟨by rfl, ?_⟩) (by assumption) ?_
    rotate_left
    · (intro w hSw; (try dsimp only at hSw); go_simp; all_goals (with_reducible rfl))
    simp only [Act.put, List.setIfInBounds_toArray, List.set_cons_zero, List.set_cons_succ]
    refine anyL_take (i := 6) (v := ?_) rfl (by kernel_rfl) (by kernel_rfl) (by kernel_rfl) (by kernel_rfl) (fun _ _ _ h => h) (Or.inl ⟨by rfl, ?_⟩) (by assumption) ?_
    rotate_left
    · (intro w hSw; (try dsimp only at hSw); go_simp; all_goals (with_reducible rfl))
    simp only [Act.put, List.setIfInBounds_toArray, List.set_cons_zero, List.set_cons_succ]
    refine anyL_take (i := 7) (v := ?_) rfl (by kernel_rfl) (by kernel_rfl) (by kernel_rfl) (by kernel_rfl) (fun _ _ _ h => h) (Or.inl ⟨by rfl, ?_⟩) (by assumption) ?_
    rotate_left
    · (intro w hSw; (try dsimp only at hSw); go_simp; all_goals (with_reducible rfl))
    simp only [Act.put, List.setIfInBounds_toArray, List.set_cons_zero, List.set_cons_succ]
    refine anyL_take (i := 8) (v := ?_) rfl (by kernel_rfl) (by kernel_rfl) (by kernel_rfl) (by kernel_rfl) (fun _ _ _ h => h) (Or.inl ⟨by rfl, ?_⟩) (by assumption) ?_
    rotate_left
    · (intro w hSw; (try dsimp only at hSw); go_simp; all_goals (with_reducible rfl))
    simp only [Act.put, List.setIfInBounds_toArray, List.set_cons_zero, List.set_cons_succ]
    refine anyL_one (i := 9) rfl (by kernel_rfl) (fun K hK => ?_)
    go_simp
    refine hK.out _ _ (fun _ => by (simp [*, World.cell?_alloc_some, frozen?_alloc_cells])) (fun hHeld2 => ?_)
    clear hK K
    try simp only [Act.put, List.setIfInBounds_toArray, List.set_cons_zero, List.set_cons_succ]
    refine anyL_one (i := 10) rfl (by kernel_rfl) (fun K hK => ?_)
    refine step_append_lies _ (by rfl) (.tmp 22) (.tmp 27) 23 (by rfl) 0 3 i3 (.int .i64 0) 1 8 Yba.underlying23 hi3 hz3 hs3 hb3 rfl (by decide) fv m (fs.map (Value.int .i64)) (by rfl) (by exact HE3.out.1.fown) ⟨w3.heap.size, 0, none⟩ 1 1 [.int .i64 rule] (by rfl) (by rfl) (by exact World.news_of_block HN3.out) one_cell (by omega) (by unfold maxLen; omega) (by omega) (Nat.zero_le _) _ rfl ?_
    intro g2 cap2 w2 hown2 hgrow2 hat2 hlt2
    have HR2 : Hid _ := HE3.out.1.addFrom (fun k hk => HF.out k (Nat.le_trans HE3.out.2.size hk)) hown2 hgrow2 hat2
    obtain ⟨l3, l4⟩ := HE3.out.1.midFrom hgrow2
    have l1 : w2.cell? ⟨A, 1, none⟩ = some (.int .i64 rule) := hgrow2.cell (hHeld2 (by decide)).2.1 HE3.out.1.kindA.2
    refine hK.out _ _ (fun _ => ⟨l3, l1, l4⟩) (fun _ => ?_)
    clear hK K hHeld hHeld2 hown2 hgrow2 hat2 hlt2
    try simp only [Act.put, List.setIfInBounds_toArray, List.set_cons_zero, List.set_cons_succ]
    refine anyL_one (i := 11) rfl (by kernel_rfl) (fun K hK => ?_)
    go_simp
    refine hK.out _ _ (fun _ => ⟨l3, l1, l4⟩) (fun _ => ?_)
    clear hK K
    try simp only [Act.put, List.setIfInBounds_toArray, List.set_cons_zero, List.set_cons_succ]
    refine anyL_one (i := 12) rfl (by kernel_rfl) (fun K hK => ?_)
    go_simp
    refine hK.out _ _ (fun _ => ⟨l3, l1, l4⟩) (fun _ => ?_)
    clear hK K
    try simp only [Act.put, List.setIfInBounds_toArray, List.set_cons_zero, List.set_cons_succ]
    refine anyL_one (i := 13) rfl (by kernel_rfl) (fun K hK => ?_)
    go_simp
    refine hK.out _ _ (fun h => absurd rfl h) (fun _ => ?_)
    clear hK K
    refine anyL_done (by kernel_rfl) ?_ _
    refine NoPanic.normal ?_
    go_wp2
    go_end0
    exact ⟨rfl, _, _, HR2.out.1, HE3.out.2.trans HR2.out.2⟩
end Go.Proofs.Ybulkfea
