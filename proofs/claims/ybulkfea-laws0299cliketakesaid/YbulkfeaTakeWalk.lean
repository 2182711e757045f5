/-
  (*explanation).take: the walk.
-/
import Derived.Test.YbulkfeaEx
namespace Go.Proofs.Ybulkfea
open Go.RowKit

def ExPost (φ : Nat → Prop) (w : World) (A : Nat) (rule : Int) (tr : Bool) (n m : Nat) (hs : List H1) (fs : List Int) (r : Int) (e : Ending) (w' : World) : Prop :=
  e = .returned (.tuple #[]) ∧ ∃ hv fv, Ex φ w' A rule tr hv fv (n + 1) (if tr = true then m + 1 else m) hs (if tr = true then fs ++ [r] else fs) ∧ Fr φ w w'

variable {φ : Nat → Prop} {w : World} {A : Nat} {rule : Int} {tr : Bool} {hv fv : Value} {n m : Nat} {hs : List H1} {fs : List Int}

theorem Ex.far {w1 : World} {k : Nat} {c : Array Value} {e : TypeId} {z : Nat × Nat} (h : Ex φ w A rule tr hv fv n m hs fs) (hg : w.grownBy w1 hv.ownBlock) (hk : w.heap[k]? = some (.cells c e z)) (h33 : e ≠ 33) (h29 : e ≠ 29) (u : Value) :
    (w1.setCell ⟨A, 0, none⟩ u).heap[k]? = some (.cells c e z) := by
  have h1 : w1.heap[k]? = some (.cells c e z) := by
    rw [hg.block k (heap_lt hk) (fun e' => by
      obtain ⟨c', z', hk'⟩ := own_kind h.hown k e'.symm
      exact ne_of_kind hk hk' h33 rfl)]
    exact hk
  rw [Below.heap_setCell w1 ⟨A, 0, none⟩ u k (ne_of_kind hk h.blk h29)]
  exact h1

theorem Ex.kindA (h : Ex φ w A rule tr hv fv n m hs fs) : some A ≠ hv.ownBlock ∧ some A ≠ fv.ownBlock := by
  constructor
  · intro e
    obtain ⟨c', z', hk'⟩ := own_kind h.hown A e.symm
    exact ne_of_kind h.blk hk' (by decide) rfl
  · intro e
    obtain ⟨c', z', hk'⟩ := own_kind h.fown A e.symm
    exact ne_of_kind h.blk hk' (by decide) rfl

/-- What the walk asks of the world behind the append to the hits. -/
theorem Ex.midHit {w1 : World} (h : Ex φ w A rule tr hv fv n m hs fs) (hg : w.grownBy w1 hv.ownBlock) :
    w1.cell? ⟨A, 0, none⟩ = some hv ∧ w1.cell? ⟨A, 1, none⟩ = some (.int .i64 rule) ∧ w1.cell? ⟨A, 2, none⟩ = some (.bool tr) ∧ w1.cell? ⟨A, 3, none⟩ = some fv ∧ w1.frozen? ⟨A, 0, none⟩ = false ∧ w1.frozen? ⟨A, 3, none⟩ = false := by
  obtain ⟨c0, c1, c2, c3, cz⟩ := h.cells
  have hl := heap_lt h.blk
  exact ⟨hg.cell c0 h.kindA.1, hg.cell c1 h.kindA.1, hg.cell c2 h.kindA.1, hg.cell c3 h.kindA.1, (hg.frozen_far _ hl h.kindA.1).trans (cz 0), (hg.frozen_far _ hl h.kindA.1).trans (cz 3)⟩
theorem Ex.midFrom {w1 : World} (h : Ex φ w A rule tr hv fv n m hs fs) (hg : w.grownBy w1 fv.ownBlock) :
    w1.cell? ⟨A, 3, none⟩ = some fv ∧ w1.frozen? ⟨A, 3, none⟩ = false := by
  obtain ⟨c0, c1, c2, c3, cz⟩ := h.cells
  have hl := heap_lt h.blk
  exact ⟨hg.cell c3 h.kindA.2, (hg.frozen_far _ hl h.kindA.2).trans (cz 3)⟩

theorem two_cells {q : Nat} {v : Int} : ∀ u ∈ [Value.slice (some ⟨q, 0, none⟩) 1 1, .iface 2 (.int .i64 v)], u.oneCell' = true := by
  intro u hu
  simp at hu
  rcases hu with rfl | rfl
  · rfl
  · rfl
theorem one_cell {r : Int} : ∀ u ∈ [Value.int .i64 r], u.oneCell' = true := by
  intro u hu
  simp at hu
  subst hu
  rfl

set_option maxHeartbeats 1000000 in
theorem take_any (h : Ex φ w A rule tr hv fv n m hs fs) (hφ : ∀ k, w.heap.size ≤ k → φ k) (x y q : Nat) (s : ByteArray) (v r : Int)
    (hx : w.heap[x]? = some (.cells #[.slice (some ⟨q, 0, none⟩) 1 1, .iface 2 (.int .i64 v)] 33 (0, 0))) (hy : w.heap[y]? = some (.cells #[.int .i64 r] 3 (0, 0)))
    (hq : φ q) (hp : w.heap[q]? = some (.cells #[.iface 9 (.string s)] 20 (0, 0))) (hn : (n : Int) ≤ 2000) (hm : (m : Int) ≤ 2000) :
    Calls Yba.prog 10 #[.pointer (some ⟨A, 0, none⟩), .slice (some ⟨x, 0, none⟩) 1 1, .slice (some ⟨y, 0, none⟩) 1 1] w (ExPost φ w A rule tr n m (hs ++ [⟨q, s, v⟩]) fs r) := by
  obtain ⟨i33, hi33, hz33, hs33, hb33⟩ := info_parts info33
  obtain ⟨i3, hi3, hz3, hs3, hb3⟩ := info_parts info3
  obtain ⟨c0, c1, c2, c3, cz⟩ := h.cells
  have z0 := cz 0
  have HE : Hid (Ex φ w A rule tr hv fv n m hs fs) := h
  have HX : Hid (w.heap[x]? = some (.cells #[.slice (some ⟨q, 0, none⟩) 1 1, .iface 2 (.int .i64 v)] 33 (0, 0))) := hx
  have HY : Hid (w.heap[y]? = some (.cells #[.int .i64 r] 3 (0, 0))) := hy
  have HP : Hid (w.heap[q]? = some (.cells #[.iface 9 (.string s)] 20 (0, 0))) := hp
  have HF : Hid (∀ k, w.heap.size ≤ k → φ k) := hφ
  have HQ : Hid (φ q) := hq
  clear h hx hy hp hφ hq cz
  cases tr with
  | false =>
    go_enter Yba.func10, Yba.ntmps10
    go_wp2_with (at_builtin; refine wpList_append_lies _ rfl (.tmp 10) (.tmp 11) 25 rfl 0 33 i33 (.agg #[.slice none 0 0, .nilIface]) 2 40 Yba.underlying25 hi33 hz33 hs33 hb33 rfl (by decide) hv n (hitCells hs) (by rfl) (by exact HE.out.hown) ⟨x, 0, none⟩ 1 1 [.slice (some ⟨q, 0, none⟩) 1 1, .iface 2 (.int .i64 v)] (by rfl) (by rfl) (by exact World.news_of_block HX.out) two_cells (by omega) (by unfold maxLen; omega) (by omega) (Nat.zero_le _) _ rfl ?_; intro g1 cap1 w1 hown1 hgrow hat hlt1; have HR : Hid _ := HE.out.addHit (x := ⟨q, s, v⟩) HF.out hown1 hgrow hat HQ.out HP.out; have HYY : Hid _ := HE.out.far hgrow HY.out (by decide) (by decide) (.slice (some ⟨g1, 0, none⟩) (n + 1) cap1); obtain ⟨m0, m1, m2, m3, m4, m5⟩ := HE.out.midHit hgrow; clear hown1 hgrow hat hlt1)
    go_end0
    exact ⟨rfl, _, _, HR.out⟩
  | true =>
    go_enter Yba.func10, Yba.ntmps10
    go_wp2_with (first
      | (at_builtin; refine wpList_append_lies _ rfl (.tmp 10) (.tmp 11) 25 rfl 0 33 i33 (.agg #[.slice none 0 0, .nilIface]) 2 40 Yba.underlying25 hi33 hz33 hs33 hb33 rfl (by decide) hv n (hitCells hs) (by rfl) (by exact HE.out.hown) ⟨x, 0, none⟩ 1 1 [.slice (some ⟨q, 0, none⟩) 1 1, .iface 2 (.int .i64 v)] (by rfl) (by rfl) (by exact World.news_of_block HX.out) two_cells (by omega) (by unfold maxLen; omega) (by omega) (Nat.zero_le _) _ rfl ?_; intro g1 cap1 w1 hown1 hgrow hat hlt1; have HR : Hid _ := HE.out.addHit (x := ⟨q, s, v⟩) HF.out hown1 hgrow hat HQ.out HP.out; have HYY : Hid _ := HE.out.far hgrow HY.out (by decide) (by decide) (.slice (some ⟨g1, 0, none⟩) (n + 1) cap1); obtain ⟨m0, m1, m2, m3, m4, m5⟩ := HE.out.midHit hgrow; clear hown1 hgrow hat hlt1)
      | (at_builtin; refine wpList_append_lies _ rfl (.tmp 23) (.tmp 24) 23 rfl 0 3 i3 (.int .i64 0) 1 8 Yba.underlying23 hi3 hz3 hs3 hb3 rfl (by decide) fv m (fs.map (Value.int .i64)) (by rfl) (by exact HR.out.1.fown) ⟨y, 0, none⟩ 1 1 [.int .i64 r] (by rfl) (by rfl) (by exact World.news_of_block HYY.out) one_cell (by omega) (by unfold maxLen; omega) (by omega) (Nat.zero_le _) _ rfl ?_; intro g2 cap2 w2 hown2 hgrow2 hat2 hlt2; have HR2 : Hid _ := HR.out.1.addFrom (fun k hk => HF.out k (Nat.le_trans HR.out.2.size hk)) hown2 hgrow2 hat2; obtain ⟨l3, l4⟩ := HR.out.1.midFrom hgrow2; clear hown2 hgrow2 hat2 hlt2))
    go_end0
    exact ⟨rfl, _, _, HR2.out.1, HR.out.2.trans HR2.out.2⟩
end Go.Proofs.Ybulkfea
