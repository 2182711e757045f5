/-
  THE WALK OF spannedRun.tail.
-/
import Derived.Test.YbulkeseHeadWalk
import Derived.Deep.DeepCutAuto
namespace Go.Proofs.Ybulkese
open Go.RowKit
attribute [local go_sem ↓] Go.wp_at_zero Go.wp_at_succ

section
variable {P : Program} {ops : Array Oper} {Q : Exit → Act → World → Prop} {md : Region.Mode} {S : World → Prop} {l : Nat}
/-- One of two may come up; one of three. -/
theorem anyG_two {i j : Nat} {oi oj : Oper} {fuel : Nat} {listed : Array Bool} {a : Act} {w : World} (hi : ops[i]? = some oi) (hj : ops[j]? = some oj) (hr : Region.ready md ops listed = [i, j])
    (h1 : ∀ K' : Act → World → Prop, Shut (∀ a w, (i < l → S w) → ((i < l → S w) → anyG P md ops Q S l fuel (listed.setIfInBounds i true) a w) → K' a w) → if Region.wanted oi (yielded ops a.tmps) = true then Oper.wp P oi a w K' Q else K' (a.put oi.dst undef) w)
    (h2 : ∀ K' : Act → World → Prop, Shut (∀ a w, (j < l → S w) → ((j < l → S w) → anyG P md ops Q S l fuel (listed.setIfInBounds j true) a w) → K' a w) → if Region.wanted oj (yielded ops a.tmps) = true then Oper.wp P oj a w K' Q else K' (a.put oj.dst undef) w) :
    anyG P md ops Q S l (fuel + 1) listed a w := by
  refine ⟨fun h0 => (by rw [hr] at h0; cases h0), fun q hq => ?_⟩
  rw [hr] at hq
  rcases List.mem_cons.1 hq with rfl | hq
  · exact wpOp_step hi (fun K' hK => h1 K' (fun a w hS hW => hK a w ⟨hS, hW hS⟩))
  · obtain rfl : q = j := by simpa using hq
    exact wpOp_step hj (fun K' hK => h2 K' (fun a w hS hW => hK a w ⟨hS, hW hS⟩))
theorem anyG_three {i j k : Nat} {oi oj ok : Oper} {fuel : Nat} {listed : Array Bool} {a : Act} {w : World} (hi : ops[i]? = some oi) (hj : ops[j]? = some oj) (hk : ops[k]? = some ok) (hr : Region.ready md ops listed = [i, j, k])
    (h1 : ∀ K' : Act → World → Prop, Shut (∀ a w, (i < l → S w) → ((i < l → S w) → anyG P md ops Q S l fuel (listed.setIfInBounds i true) a w) → K' a w) → if Region.wanted oi (yielded ops a.tmps) = true then Oper.wp P oi a w K' Q else K' (a.put oi.dst undef) w)
    (h2 : ∀ K' : Act → World → Prop, Shut (∀ a w, (j < l → S w) → ((j < l → S w) → anyG P md ops Q S l fuel (listed.setIfInBounds j true) a w) → K' a w) → if Region.wanted oj (yielded ops a.tmps) = true then Oper.wp P oj a w K' Q else K' (a.put oj.dst undef) w)
    (h3 : ∀ K' : Act → World → Prop, Shut (∀ a w, (k < l → S w) → ((k < l → S w) → anyG P md ops Q S l fuel (listed.setIfInBounds k true) a w) → K' a w) → if Region.wanted ok (yielded ops a.tmps) = true then Oper.wp P ok a w K' Q else K' (a.put ok.dst undef) w) :
    anyG P md ops Q S l (fuel + 1) listed a w := by
  refine ⟨fun h0 => (by rw [hr] at h0; cases h0), fun q hq => ?_⟩
  rw [hr] at hq
  rcases List.mem_cons.1 hq with rfl | hq
  · exact wpOp_step hi (fun K' hK => h1 K' (fun a w hS hW => hK a w ⟨hS, hW hS⟩))
  rcases List.mem_cons.1 hq with rfl | hq
  · exact wpOp_step hj (fun K' hK => h2 K' (fun a w hS hW => hK a w ⟨hS, hW hS⟩))
  · obtain rfl : q = k := by simpa using hq
    exact wpOp_step hk (fun K' hK => h3 K' (fun a w hS hW => hK a w ⟨hS, hW hS⟩))
end

/-- The fingerprinter lives, and nothing but it and new blocks has turned since W0. -/
def TI (B g a b : Nat) (W0 w' : World) : Prop := ∃ g' cap' nn', Fpr w' B g' cap' a b nn' ∧ nn' < 1000000 ∧ (g' = g ∨ W0.heap.size ≤ g') ∧ But B g W0 w'
/-- A fingerprint that nothing has been stored into. -/
def ZB (w : World) (X : Nat) : Prop := w.heap[X]? = some (.cells #[.int .u64 0, .int .u64 0] 36 (0, 0))
/-- Such blocks from W0's end on are kept. -/
def Zk (W0 w' w'' : World) : Prop := ∀ X, W0.heap.size ≤ X → ZB w' X → ZB w'' X

section
variable {B g a b : Nat} {W0 w w' w'' : World} {X Y : Nat}
theorem TI.grow (h : TI B g a b W0 w') (hb : Below w'.heap.size w' w'') : TI B g a b W0 w'' := by
  obtain ⟨g', cap', nn', h1, h2, h3, h4⟩ := h
  exact ⟨g', cap', nn', h1.below' hb, h2, h3, h4.then_below hb⟩
theorem TI.drew (h : TI B g a b W0 w') : TI B g a b W0 w'.drew := h.grow ((Below.refl _ _).drew)
theorem TI.alloc (h : TI B g a b W0 w') (o : Obj) : TI B g a b W0 (w'.alloc o) := h.grow ((Below.refl _ _).alloc (Nat.le_refl _) _)
theorem TI.size (h : TI B g a b W0 w') : W0.heap.size ≤ w'.heap.size := by obtain ⟨g', cap', nn', h1, h2, h3, h4⟩ := h; exact h4.size
theorem TI.cell (h : TI B g a b W0 w') {p : Addr} (hp : p.block < W0.heap.size) (hB : p.block ≠ B) (hg : p.block ≠ g) : w'.cell? p = W0.cell? p := by
  obtain ⟨g', cap', nn', h1, h2, h3, h4⟩ := h
  exact h4.cell hp hB hg
theorem ZB.lt (h : ZB w X) : X < w.heap.size := lt_of_heap h
theorem ZB.cells (h : ZB w X) : w.cell? ⟨X, 0, none⟩ = some (.int .u64 0) ∧ w.cell? ⟨X, 1, none⟩ = some (.int .u64 0) ∧ w.frozen? ⟨X, 0, none⟩ = false ∧ w.frozen? ⟨X, 1, none⟩ = false :=
  ⟨cell_of_block h 0, cell_of_block h 1, frozen_of_block h, frozen_of_block h⟩
theorem ZB.alloc (h : ZB w X) (o : Obj) : ZB (w.alloc o) X := (Below.heap_alloc w o X h.lt).trans h
theorem zb_new (w : World) : ZB (w.alloc (.cells #[.int .u64 0, .int .u64 0] 36)) w.heap.size := heap_alloc_new w _
theorem Zk.keep (h : Zk W0 w' w'') (hX : ZB w' X) (hl : W0.heap.size ≤ X) : ZB w'' X := h X hl hX
/-- A block that begins with 0 is no row of powers. -/
theorem ZB.ne {cap n : Nat} (h : ZB w X) (hF : Fpr w B g cap a b n) : X ≠ g := fun e => by
  have h1 := hF.cellA (k := 0) (Nat.zero_le _)
  rw [Nat.zero_mul, ← e, h.cells.1] at h1
  simp [pw] at h1

/-- What the region leaves: both fingerprints stored, the fingerprinter apart from them. -/
def Leaf (B g a b : Nat) (W0 : World) (X Y : Nat) (u v u' v' : Value) (w : World) : Prop :=
  ∃ g' cap' nn', Fpr w B g' cap' a b nn' ∧ nn' < 1000000 ∧ (g' = g ∨ W0.heap.size ≤ g') ∧ But B g W0 w ∧ X ≠ g' ∧ Y ≠ g' ∧ W0.heap.size ≤ X ∧ W0.heap.size ≤ Y ∧
    w.heap[X]? = some (.cells #[u, v] 36 (0, 0)) ∧ w.heap[Y]? = some (.cells #[u', v'] 36 (0, 0))
theorem leaf_facts (hti : TI B g a b W0 w) (hX : ZB w X) (hY : ZB w Y) (hXY : X ≠ Y) (lX : W0.heap.size ≤ X) (lY : W0.heap.size ≤ Y) (hB : B < W0.heap.size) (u v u' v' : Value) :
    Leaf B g a b W0 X Y u v u' v' ((((w.setCell ⟨X, 0, none⟩ u).setCell ⟨X, 1, none⟩ v).setCell ⟨Y, 0, none⟩ u').setCell ⟨Y, 1, none⟩ v') := by
  obtain ⟨g', cap', nn', h1, h2, h3, h4⟩ := hti
  have nX := hX.ne h1
  have nY := hY.ne h1
  have bX : B ≠ X := by omega
  have bY : B ≠ Y := by omega
  refine ⟨g', cap', nn', h1.same ?_ ?_, h2, h3, (((h4.setCell (.inr (.inr lX)) _).setCell (.inr (.inr lX)) _).setCell (.inr (.inr lY)) _).setCell (.inr (.inr lY)) _, nX, nY, lX, lY, ?_, ?_⟩
  · rw [heap_setCell_other _ _ _ _ (by exact bY), heap_setCell_other _ _ _ _ (by exact bY), heap_setCell_other _ _ _ _ (by exact bX), heap_setCell_other _ _ _ _ (by exact bX)]
  · rw [heap_setCell_other _ _ _ _ (by exact Ne.symm nY), heap_setCell_other _ _ _ _ (by exact Ne.symm nY), heap_setCell_other _ _ _ _ (by exact Ne.symm nX), heap_setCell_other _ _ _ _ (by exact Ne.symm nX)]
  · rw [heap_setCell_other _ _ _ _ (by exact hXY), heap_setCell_other _ _ _ _ (by exact hXY)]
    have e1 := heap_setCell_same w X 0 _ 36 u hX
    rw [heap_setCell_same _ X 1 _ 36 v e1]; simp
  · have e0 : ((w.setCell ⟨X, 0, none⟩ u).setCell ⟨X, 1, none⟩ v).heap[Y]? = some (.cells #[.int .u64 0, .int .u64 0] 36 (0, 0)) := by
      rw [heap_setCell_other _ _ _ _ (by exact Ne.symm hXY), heap_setCell_other _ _ _ _ (by exact Ne.symm hXY)]; exact hY
    have e1 := heap_setCell_same _ Y 0 _ 36 u' e0
    rw [heap_setCell_same _ Y 1 _ 36 v' e1]; simp
end

set_option maxHeartbeats 1000000 in
/-- head, from any world in which the fingerprinter lives. -/
theorem head_TI (TX B g tp gs ga gp n L C m : Nat) (l fl : List Nat) (F T A : Nat → Nat) (a b : Nat) (tt : Int) (W0 w' : World) (la : a < P61) (lb : b < P61)
    (hR : Run W0 TX B tp gs ga gp n L C l fl F T A a b) (hS : Shape n L l fl F T A) (hAp : Apart W0 B g TX tp gs ga gp) (hB : B < W0.heap.size) (hm : m ≤ fl.length) (h : TI B g a b W0 w') :
    Calls Yba.prog 8 #[.agg #[.pointer (some ⟨TX, 0, none⟩), .slice (some ⟨gs, 0, none⟩) n n, .slice (some ⟨ga, 0, none⟩) n n, .slice (some ⟨gp, 0, none⟩) n n, .int .i64 tt], .int .i64 m] w' fun e w'' =>
      e = .returned (.agg #[.int .u64 (pf a fl m : Nat), .int .u64 (pf b fl m : Nat)]) ∧ TI B g a b W0 w'' ∧ Zk W0 w' w'' := by
  obtain ⟨g', cap', nn', h1, h2, h3, h4⟩ := h
  have hs := h4.size
  obtain ⟨⟨l1, l2, l3, l4, l5⟩, ⟨b1, b2, b3, b4, b5⟩, ⟨g1, g2, g3, g4, g5⟩⟩ := hAp
  have hR' : Run w' TX B tp gs ga gp n L C l fl F T A a b := hR.same (fun k => k < W0.heap.size ∧ k ≠ B ∧ k ≠ g) ⟨⟨l1, b1, g1⟩, ⟨l2, b2, g2⟩, ⟨l3, b3, g3⟩, ⟨l4, b4, g4⟩, ⟨l5, b5, g5⟩⟩ (fun k hk => h4.block k hk.1 hk.2.1 hk.2.2)
  refine (head_any TX B g' cap' nn' tp gs ga gp n L C n n n m l fl F T A a b tt w' h1 h2 la lb hR' hS ⟨⟨by omega, by omega, by omega, by omega, by omega⟩, ⟨b1, b2, b3, b4, b5⟩, ⟨by omega, by omega, by omega, by omega, by omega⟩⟩ hm).mono ?_
  rintro e w'' ⟨rfl, g'', cap'', n'', hF, hn, hg, hb⟩
  refine ⟨rfl, ⟨g'', cap'', n'', hF, hn, by omega, h4.trans hb h3⟩, fun X lX hX => ?_⟩
  have e : w''.heap[X]? = w'.heap[X]? := hb.block X hX.lt (by omega) (hX.ne h1)
  exact e.trans hX

set_option linter.unusedSimpArgs false in
set_option maxRecDepth 100000 in
set_option maxHeartbeats 4000000 in
/-- tail. -/
theorem tail_any (TX B g cap nn tp gs ga gp n L C K : Nat) (l fl : List Nat) (F T A : Nat → Nat) (a b : Nat) (w : World) (hF : Fpr w B g cap a b nn) (hnn : nn < 1000000) (la : a < P61) (lb : b < P61)
    (hR : Run w TX B tp gs ga gp n L C l fl F T A a b) (hS : Shape n L l fl F T A) (hAp : Apart w B g TX tp gs ga gp) (hK : K ≤ fl.length) :
    Calls Yba.prog 10 #[.agg #[.pointer (some ⟨TX, 0, none⟩), .slice (some ⟨gs, 0, none⟩) n n, .slice (some ⟨ga, 0, none⟩) n n, .slice (some ⟨gp, 0, none⟩) n n, .int .i64 (fl.length : Nat)], .int .i64 K] w fun e w' =>
      e = .returned (.agg #[.int .u64 (pf a (fl.drop (fl.length - K)) K : Nat), .int .u64 (pf b (fl.drop (fl.length - K)) K : Nat)]) ∧
      ∃ g' cap' n', Fpr w' B g' cap' a b n' ∧ n' < 1000000 ∧ (g' = g ∨ w.heap.size ≤ g') ∧ But B g w w' := by
  have hfl := hS.flle
  have lB := hF.ltB
  have lg := hF.ltg
  have HA : Hid (Apart w B g TX tp gs ga gp) := hAp
  have HSh : Hid (Shape n L l fl F T A) := hS
  have e1 := between_law a fl (fl.length - K) fl.length (by omega) (Nat.le_refl _)
  have e2 := between_law b fl (fl.length - K) fl.length (by omega) (Nat.le_refl _)
  rw [show fl.length - (fl.length - K) = K by omega] at e1 e2
  rw [← e1, ← e2]
  clear e1 e2
  obtain ⟨tot, htot⟩ : ∃ tot, tot = fl.length := ⟨_, rfl⟩
  rw [← htot] at hfl hK ⊢
  obtain ⟨D, hD⟩ : ∃ D, D = tot - K := ⟨_, rfl⟩
  rw [← hD]
  have hmt : Hid (tot ≤ fl.length) := Nat.le_of_eq htot
  have hmd : Hid (D ≤ fl.length) := by show D ≤ fl.length; omega
  have hwd : IntKind.i64.wrap ((tot : Int) - K) = D := by rw [IntKind.wrap_i64]; omega
  have HKK : Hid (K ≤ tot ∧ tot ≤ 262144) := ⟨hK, hfl⟩
  clear hS hAp htot hD hfl hK
  go_enter Yba.func10, Yba.ntmps10
  go_wp2
  obtain ⟨W0, hW0⟩ : ∃ W0, W0 = (w.alloc (.cells #[.pointer (some ⟨TX, 0, none⟩), .slice (some ⟨gs, 0, none⟩) n n, .slice (some ⟨ga, 0, none⟩) n n, .slice (some ⟨gp, 0, none⟩) n n, .int .i64 (tot : Nat)] 31)).alloc (.cells #[.int .u64 0, .int .u64 0] 36) := ⟨_, rfl⟩
  rw [← hW0]
  have hbW : Below w.heap.size w W0 := by rw [hW0]; exact ((Below.refl _ _).alloc (Nat.le_refl _) _).alloc (by simp) _
  have hszW : W0.heap.size = w.heap.size + 1 + 1 := by rw [hW0]; simp
  have hRB : W0.heap[w.heap.size]? = some (.cells #[.pointer (some ⟨TX, 0, none⟩), .slice (some ⟨gs, 0, none⟩) n n, .slice (some ⟨ga, 0, none⟩) n n, .slice (some ⟨gp, 0, none⟩) n n, .int .i64 (tot : Nat)] 31 (0, 0)) := by rw [hW0, Below.heap_alloc _ _ _ (by simp)]; exact heap_alloc_new w _
  have hRS : W0.heap[w.heap.size + 1]? = some (.cells #[.int .u64 0, .int .u64 0] 36 (0, 0)) := by
    have := heap_alloc_new (w.alloc (.cells #[.pointer (some ⟨TX, 0, none⟩), .slice (some ⟨gs, 0, none⟩) n n, .slice (some ⟨ga, 0, none⟩) n n, .slice (some ⟨gp, 0, none⟩) n n, .int .i64 (tot : Nat)] 31)) (.cells #[.int .u64 0, .int .u64 0] 36)
    rw [hW0]; simpa using this
  clear hW0
  obtain ⟨RS, hrs⟩ : ∃ q, w.heap.size + 1 = q := ⟨_, rfl⟩
  rw [hrs] at hRS hszW ⊢
  obtain ⟨RB, hrb⟩ : ∃ q, w.heap.size = q := ⟨_, rfl⟩
  rw [hrb] at hRB ⊢
  have lBW : B < W0.heap.size := by omega
  have HOrd : Hid (RB = w.heap.size ∧ RS = w.heap.size + 1 ∧ W0.heap.size = w.heap.size + 1 + 1) := ⟨by omega, by omega, by omega⟩
  have hA := HA.out
  have hA0 : Apart W0 B g TX tp gs ga gp := ⟨by obtain ⟨a1, a2, a3, a4, a5⟩ := hA.lt; exact ⟨by omega, by omega, by omega, by omega, by omega⟩, hA.nB, hA.ng⟩
  have hR0 : Run W0 TX B tp gs ga gp n L C l fl F T A a b := hR.same (fun k => k < w.heap.size) hA.lt (fun k hk => hbW.block k hk)
  have hti0 : TI B g a b W0 W0 := ⟨g, cap, nn, hF.below' hbW, hnn, .inl rfl, But.refl _ _ _⟩
  have HH : Hid (∀ m w', m ≤ fl.length → TI B g a b W0 w' → Calls Yba.prog 8 #[.agg #[.pointer (some ⟨TX, 0, none⟩), .slice (some ⟨gs, 0, none⟩) n n, .slice (some ⟨ga, 0, none⟩) n n, .slice (some ⟨gp, 0, none⟩) n n, .int .i64 (tot : Nat)], .int .i64 m] w' fun e w'' =>
      e = .returned (.agg #[.int .u64 (pf a fl m : Nat), .int .u64 (pf b fl m : Nat)]) ∧ TI B g a b W0 w'' ∧ Zk W0 w' w'') := fun m w' hm ht => head_TI TX B g tp gs ga gp n L C m l fl F T A a b (tot : Nat) W0 w' la lb hR0 HSh.out hA0 lBW hm ht
  have TS : Hid (∀ w', TI B g a b W0 w' → TI B g a b W0 w' ∧ w'.cell? ⟨RB, 0, none⟩ = some (.pointer (some ⟨TX, 0, none⟩)) ∧ w'.cell? ⟨RB, 1, none⟩ = some (.slice (some ⟨gs, 0, none⟩) n n) ∧ w'.cell? ⟨RB, 2, none⟩ = some (.slice (some ⟨ga, 0, none⟩) n n) ∧ w'.cell? ⟨RB, 3, none⟩ = some (.slice (some ⟨gp, 0, none⟩) n n) ∧ w'.cell? ⟨RB, 4, none⟩ = some (.int .i64 (tot : Nat))) := fun w' ht => ⟨ht, (ht.cell (p := ⟨RB, 0, none⟩) (by show RB < _; omega) (by show RB ≠ B; omega) (by show RB ≠ g; omega)).trans (cell_of_block hRB 0), (ht.cell (p := ⟨RB, 1, none⟩) (by show RB < _; omega) (by show RB ≠ B; omega) (by show RB ≠ g; omega)).trans (cell_of_block hRB 1), (ht.cell (p := ⟨RB, 2, none⟩) (by show RB < _; omega) (by show RB ≠ B; omega) (by show RB ≠ g; omega)).trans (cell_of_block hRB 2), (ht.cell (p := ⟨RB, 3, none⟩) (by show RB < _; omega) (by show RB ≠ B; omega) (by show RB ≠ g; omega)).trans (cell_of_block hRB 3), (ht.cell (p := ⟨RB, 4, none⟩) (by show RB < _; omega) (by show RB ≠ B; omega) (by show RB ≠ g; omega)).trans (cell_of_block hRB 4)⟩
  obtain ⟨v1, v3, v4, htx⟩ := hR0.text
  have HTX : Hid (W0.heap[TX]? = some (.cells #[.pointer (some ⟨B, 0, none⟩), v1, .slice (some ⟨tp, 0, none⟩) (L + 1) C, v3, v4] 57 (0, 0))) := htx
  have HRB : Hid (W0.heap[RB]? = some (.cells #[.pointer (some ⟨TX, 0, none⟩), .slice (some ⟨gs, 0, none⟩) n n, .slice (some ⟨ga, 0, none⟩) n n, .slice (some ⟨gp, 0, none⟩) n n, .int .i64 (tot : Nat)] 31 (0, 0))) := hRB
  have HRS : Hid (W0.heap[RS]? = some (.cells #[.int .u64 0, .int .u64 0] 36 (0, 0))) := hRS
  have HBW : Hid (Below w.heap.size w W0) := hbW
  have HApx : Hid (Apart W0 B g TX tp gs ga gp) := hA0
  have Hlg : Hid (g < w.heap.size ∧ B < w.heap.size) := ⟨lg, lB⟩
  clear hrs hrb hRB hRS hbW hszW hR hF hR0 hA hA0 htx lB lg
  go_cut [5, 6] (fun s5 s6 wx => ∃ X Y, s5 = .pointer (some ⟨X, 0, none⟩) ∧ s6 = .pointer (some ⟨Y, 0, none⟩) ∧ Leaf B g a b W0 X Y (.int .u64 (pf a fl tot : Nat)) (.int .u64 (pf b fl tot : Nat)) (.int .u64 (pf a fl D : Nat)) (.int .u64 (pf b fl D : Nat)) wx)
  case first =>
    refine wp_region_noPanic ?_
    refine wp_region_G (fun w' => TI B g a b W0 w' ∧ w'.cell? ⟨RB, 0, none⟩ = some (.pointer (some ⟨TX, 0, none⟩)) ∧ w'.cell? ⟨RB, 1, none⟩ = some (.slice (some ⟨gs, 0, none⟩) n n) ∧ w'.cell? ⟨RB, 2, none⟩ = some (.slice (some ⟨ga, 0, none⟩) n n) ∧ w'.cell? ⟨RB, 3, none⟩ = some (.slice (some ⟨gp, 0, none⟩) n n) ∧ w'.cell? ⟨RB, 4, none⟩ = some (.int .i64 (tot : Nat))) 12 (by kernel_rfl) (TS.out _ hti0.drew) (fun hHeld => ?_)
    refine anyG_take (i := 0) 9 (v := ?_) rfl (by kernel_rfl) (by kernel_rfl) (by kernel_rfl) (by kernel_rfl) (by kernel_rfl) (fun _ _ _ h => h) (Or.inl ⟨by rfl, ?_⟩) (by assumption) ?_
    rotate_left
    · (intro w hSw; (try dsimp only at hSw); go_simp; all_goals (with_reducible rfl))
    try simp only [Act.put, List.setIfInBounds_toArray, List.set_cons_zero, List.set_cons_succ]
    refine anyG_take (i := 1) 9 (v := ?_) rfl (by kernel_rfl) (by kernel_rfl) (by kernel_rfl) (by kernel_rfl) (by kernel_rfl) (fun _ _ _ h => h) (Or.inl ⟨by rfl, ?_⟩) (by assumption) ?_
    rotate_left
    · (intro w hSw; (try dsimp only at hSw); go_simp; all_goals (with_reducible rfl))
    try simp only [Act.put, List.setIfInBounds_toArray, List.set_cons_zero, List.set_cons_succ]
    refine anyG_take (i := 2) 9 (v := ?_) rfl (by kernel_rfl) (by kernel_rfl) (by kernel_rfl) (by kernel_rfl) (by kernel_rfl) (fun _ _ _ h => h) (Or.inl ⟨by rfl, ?_⟩) (by assumption) ?_
    rotate_left
    · (intro w hSw; (try dsimp only at hSw); go_simp; all_goals (with_reducible rfl))
    try simp only [Act.put, List.setIfInBounds_toArray, List.set_cons_zero, List.set_cons_succ]
    refine anyG_take (i := 4) 9 (v := ?_) rfl (by kernel_rfl) (by kernel_rfl) (by kernel_rfl) (by kernel_rfl) (by kernel_rfl) (fun _ _ _ h => h) (Or.inl ⟨by rfl, ?_⟩) (by assumption) ?_
    rotate_left
    · (intro w hSw; (try dsimp only at hSw); go_simp; all_goals (with_reducible rfl))
    try simp only [Act.put, List.setIfInBounds_toArray, List.set_cons_zero, List.set_cons_succ]
    refine anyG_take (i := 5) 9 (v := ?_) rfl (by kernel_rfl) (by kernel_rfl) (by kernel_rfl) (by kernel_rfl) (by kernel_rfl) (fun _ _ _ h => h) (Or.inl ⟨by rfl, ?_⟩) (by assumption) ?_
    rotate_left
    · (intro w hSw; (try dsimp only at hSw); go_simp; all_goals (with_reducible rfl))
    try simp only [Act.put, List.setIfInBounds_toArray, List.set_cons_zero, List.set_cons_succ]
    refine anyG_take (i := 6) 9 (v := ?_) rfl (by kernel_rfl) (by kernel_rfl) (by kernel_rfl) (by kernel_rfl) (by kernel_rfl) (fun _ _ _ h => h) (Or.inl ⟨by rfl, ?_⟩) (by assumption) ?_
    rotate_left
    · (intro w hSw; (try dsimp only at hSw); go_simp; all_goals (with_reducible rfl))
    try simp only [Act.put, List.setIfInBounds_toArray, List.set_cons_zero, List.set_cons_succ]
    refine anyG_take (i := 7) 9 (v := ?_) rfl (by kernel_rfl) (by kernel_rfl) (by kernel_rfl) (by kernel_rfl) (by kernel_rfl) (fun _ _ _ h => h) (Or.inl ⟨by rfl, ?_⟩) (by assumption) ?_
    rotate_left
    · (intro w hSw; (try dsimp only at hSw); go_simp; all_goals (with_reducible rfl))
    try simp only [Act.put, List.setIfInBounds_toArray, List.set_cons_zero, List.set_cons_succ]
    refine anyG_take (i := 8) 9 (v := ?_) rfl (by kernel_rfl) (by kernel_rfl) (by kernel_rfl) (by kernel_rfl) (by kernel_rfl) (fun _ _ _ h => h) (Or.inl ⟨by rfl, ?_⟩) (by assumption) ?_
    rotate_left
    · (intro w hSw; (try dsimp only at hSw); go_simp; all_goals (with_reducible rfl))
    try simp only [Act.put, List.setIfInBounds_toArray, List.set_cons_zero, List.set_cons_succ]
    obtain ⟨w0, hw00⟩ : ∃ q, q = W0.drew := ⟨_, rfl⟩
    rw [← hw00]
    have hti0 : TI B g a b W0 w0 := by rw [hw00]; exact hti0.drew
    clear hw00 hHeld
    refine anyG_three (i := 3) (j := 10) (k := 11) rfl rfl rfl (by kernel_rfl) (fun K hK => ?_) (fun K hK => ?_) (fun K hK => ?_)
    · go_simp
      refine (HH.out tot w0 hmt.out hti0).mono ?_
      rintro e w1 ⟨rfl, hti1, hz1⟩
      dsimp only
      refine hK.out _ _ (fun _ => TS.out _ hti1) (fun _ => ?_)
      clear hK K hz1
      try simp only [Act.put, List.setIfInBounds_toArray, List.set_cons_zero, List.set_cons_succ]
      refine anyG_three (i := 9) (j := 10) (k := 11) rfl rfl rfl (by kernel_rfl) (fun K hK => ?_) (fun K hK => ?_) (fun K hK => ?_)
      · go_simp
        refine (HH.out D w1 hmd.out hti1).mono ?_
        rintro e w2 ⟨rfl, hti2, hz2⟩
        dsimp only
        refine hK.out _ _ (fun _ => TS.out _ hti2) (fun _ => ?_)
        clear hK K hz2
        try simp only [Act.put, List.setIfInBounds_toArray, List.set_cons_zero, List.set_cons_succ]
        refine anyG_two (i := 10) (j := 11) rfl rfl (by kernel_rfl) (fun K hK => ?_) (fun K hK => ?_)
        · go_simp
          obtain ⟨w3, hw⟩ : ∃ q, q = w2.alloc (.cells #[.int .u64 0, .int .u64 0] 36) := ⟨_, rfl⟩
          rw [← hw]
          have hti3 : TI B g a b W0 w3 := by rw [hw]; exact hti2.alloc _
          have hX3 : ZB w3 w2.heap.size := by rw [hw]; exact zb_new w2
          have lX : W0.heap.size ≤ w2.heap.size := hti2.size
          obtain ⟨X, he⟩ : ∃ q, w2.heap.size = q := ⟨_, rfl⟩
          rw [he] at hX3 lX ⊢
          clear he hw
          refine hK.out _ _ (fun _ => TS.out _ hti3) (fun _ => ?_)
          clear hK K
          try simp only [Act.put, List.setIfInBounds_toArray, List.set_cons_zero, List.set_cons_succ]
          refine anyG_one (i := 11) rfl (by kernel_rfl) (fun K hK => ?_)
          go_simp
          obtain ⟨w4, hw⟩ : ∃ q, q = w3.alloc (.cells #[.int .u64 0, .int .u64 0] 36) := ⟨_, rfl⟩
          rw [← hw]
          have hti4 : TI B g a b W0 w4 := by rw [hw]; exact hti3.alloc _
          have hY4 : ZB w4 w3.heap.size := by rw [hw]; exact zb_new w3
          have lY : W0.heap.size ≤ w3.heap.size := hti3.size
          have hX4 : ZB w4 X := by rw [hw]; exact hX3.alloc _
          have hXY : X ≠ w3.heap.size := Nat.ne_of_lt hX3.lt
          obtain ⟨Y, he⟩ : ∃ q, w3.heap.size = q := ⟨_, rfl⟩
          rw [he] at hY4 lY hXY ⊢
          clear he hw
          refine hK.out _ _ (fun _ => TS.out _ hti4) (fun _ => ?_)
          clear hK K
          try simp only [Act.put, List.setIfInBounds_toArray, List.set_cons_zero, List.set_cons_succ]
          obtain ⟨x0, x1, x2, x3⟩ := hX4.cells
          obtain ⟨y0, y1, y2, y3⟩ := hY4.cells
          have hYX : Y ≠ X := Ne.symm hXY
          refine anyG_one (i := 12) rfl (by kernel_rfl) (fun K hK => ?_)
          go_simp
          refine hK.out _ _ (fun h => absurd h (by decide)) (fun _ => ?_)
          clear hK K
          try simp only [Act.put, List.setIfInBounds_toArray, List.set_cons_zero, List.set_cons_succ]
          have y0' : ((w4.setCell ⟨X, 0, none⟩ (.int .u64 (pf a fl tot : Nat))).setCell ⟨X, 1, none⟩ (.int .u64 (pf b fl tot : Nat))).cell? ⟨Y, 0, none⟩ = some (.int .u64 0) := by simp [World.cell?_setCell_far, hXY, y0]
          have y1' : ((w4.setCell ⟨X, 0, none⟩ (.int .u64 (pf a fl tot : Nat))).setCell ⟨X, 1, none⟩ (.int .u64 (pf b fl tot : Nat))).cell? ⟨Y, 1, none⟩ = some (.int .u64 0) := by simp [World.cell?_setCell_far, hXY, y1]
          refine anyG_one (i := 13) rfl (by kernel_rfl) (fun K hK => ?_)
          go_simp
          refine hK.out _ _ (fun h => absurd h (by decide)) (fun _ => ?_)
          clear hK K
          try simp only [Act.put, List.setIfInBounds_toArray, List.set_cons_zero, List.set_cons_succ]
          refine anyG_done (by kernel_rfl) ?_ _
          refine NoPanic.normal ?_
          have hleaf := leaf_facts hti4 hX4 hY4 hXY lX lY lBW (.int .u64 (pf a fl tot : Nat)) (.int .u64 (pf b fl tot : Nat)) (.int .u64 (pf a fl D : Nat)) (.int .u64 (pf b fl D : Nat))
          clear x0 x1 x2 x3 y0 y1 y2 y3 y0' y1'
          go_wp2
          go_meet
          exact ⟨X, Y, rfl, rfl, hleaf⟩
        · go_simp
          obtain ⟨w3, hw⟩ : ∃ q, q = w2.alloc (.cells #[.int .u64 0, .int .u64 0] 36) := ⟨_, rfl⟩
          rw [← hw]
          have hti3 : TI B g a b W0 w3 := by rw [hw]; exact hti2.alloc _
          have hY3 : ZB w3 w2.heap.size := by rw [hw]; exact zb_new w2
          have lY : W0.heap.size ≤ w2.heap.size := hti2.size
          obtain ⟨Y, he⟩ : ∃ q, w2.heap.size = q := ⟨_, rfl⟩
          rw [he] at hY3 lY ⊢
          clear he hw
          refine hK.out _ _ (fun _ => TS.out _ hti3) (fun _ => ?_)
          clear hK K
          try simp only [Act.put, List.setIfInBounds_toArray, List.set_cons_zero, List.set_cons_succ]
          refine anyG_one (i := 10) rfl (by kernel_rfl) (fun K hK => ?_)
          go_simp
          obtain ⟨w4, hw⟩ : ∃ q, q = w3.alloc (.cells #[.int .u64 0, .int .u64 0] 36) := ⟨_, rfl⟩
          rw [← hw]
          have hti4 : TI B g a b W0 w4 := by rw [hw]; exact hti3.alloc _
          have hX4 : ZB w4 w3.heap.size := by rw [hw]; exact zb_new w3
          have lX : W0.heap.size ≤ w3.heap.size := hti3.size
          have hY4 : ZB w4 Y := by rw [hw]; exact hY3.alloc _
          have hXY : w3.heap.size ≠ Y := Nat.ne_of_gt hY3.lt
          obtain ⟨X, he⟩ : ∃ q, w3.heap.size = q := ⟨_, rfl⟩
          rw [he] at hX4 lX hXY ⊢
          clear he hw
          refine hK.out _ _ (fun _ => TS.out _ hti4) (fun _ => ?_)
          clear hK K
          try simp only [Act.put, List.setIfInBounds_toArray, List.set_cons_zero, List.set_cons_succ]
          obtain ⟨x0, x1, x2, x3⟩ := hX4.cells
          obtain ⟨y0, y1, y2, y3⟩ := hY4.cells
          have hYX : Y ≠ X := Ne.symm hXY
          refine anyG_one (i := 12) rfl (by kernel_rfl) (fun K hK => ?_)
          go_simp
          refine hK.out _ _ (fun h => absurd h (by decide)) (fun _ => ?_)
          clear hK K
          try simp only [Act.put, List.setIfInBounds_toArray, List.set_cons_zero, List.set_cons_succ]
          have y0' : ((w4.setCell ⟨X, 0, none⟩ (.int .u64 (pf a fl tot : Nat))).setCell ⟨X, 1, none⟩ (.int .u64 (pf b fl tot : Nat))).cell? ⟨Y, 0, none⟩ = some (.int .u64 0) := by simp [World.cell?_setCell_far, hXY, y0]
          have y1' : ((w4.setCell ⟨X, 0, none⟩ (.int .u64 (pf a fl tot : Nat))).setCell ⟨X, 1, none⟩ (.int .u64 (pf b fl tot : Nat))).cell? ⟨Y, 1, none⟩ = some (.int .u64 0) := by simp [World.cell?_setCell_far, hXY, y1]
          refine anyG_one (i := 13) rfl (by kernel_rfl) (fun K hK => ?_)
          go_simp
          refine hK.out _ _ (fun h => absurd h (by decide)) (fun _ => ?_)
          clear hK K
          try simp only [Act.put, List.setIfInBounds_toArray, List.set_cons_zero, List.set_cons_succ]
          refine anyG_done (by kernel_rfl) ?_ _
          refine NoPanic.normal ?_
          have hleaf := leaf_facts hti4 hX4 hY4 hXY lX lY lBW (.int .u64 (pf a fl tot : Nat)) (.int .u64 (pf b fl tot : Nat)) (.int .u64 (pf a fl D : Nat)) (.int .u64 (pf b fl D : Nat))
          clear x0 x1 x2 x3 y0 y1 y2 y3 y0' y1'
          go_wp2
          go_meet
          exact ⟨X, Y, rfl, rfl, hleaf⟩
      · go_simp
        obtain ⟨w2, hw⟩ : ∃ q, q = w1.alloc (.cells #[.int .u64 0, .int .u64 0] 36) := ⟨_, rfl⟩
        rw [← hw]
        have hti2 : TI B g a b W0 w2 := by rw [hw]; exact hti1.alloc _
        have hX2 : ZB w2 w1.heap.size := by rw [hw]; exact zb_new w1
        have lX : W0.heap.size ≤ w1.heap.size := hti1.size
        obtain ⟨X, he⟩ : ∃ q, w1.heap.size = q := ⟨_, rfl⟩
        rw [he] at hX2 lX ⊢
        clear he hw
        refine hK.out _ _ (fun _ => TS.out _ hti2) (fun _ => ?_)
        clear hK K
        try simp only [Act.put, List.setIfInBounds_toArray, List.set_cons_zero, List.set_cons_succ]
        refine anyG_two (i := 9) (j := 11) rfl rfl (by kernel_rfl) (fun K hK => ?_) (fun K hK => ?_)
        · go_simp
          refine (HH.out D w2 hmd.out hti2).mono ?_
          rintro e w3 ⟨rfl, hti3, hz3⟩
          dsimp only
          have hX3 : ZB w3 X := hz3.keep hX2 lX
          refine hK.out _ _ (fun _ => TS.out _ hti3) (fun _ => ?_)
          clear hK K hz3
          try simp only [Act.put, List.setIfInBounds_toArray, List.set_cons_zero, List.set_cons_succ]
          refine anyG_one (i := 11) rfl (by kernel_rfl) (fun K hK => ?_)
          go_simp
          obtain ⟨w4, hw⟩ : ∃ q, q = w3.alloc (.cells #[.int .u64 0, .int .u64 0] 36) := ⟨_, rfl⟩
          rw [← hw]
          have hti4 : TI B g a b W0 w4 := by rw [hw]; exact hti3.alloc _
          have hY4 : ZB w4 w3.heap.size := by rw [hw]; exact zb_new w3
          have lY : W0.heap.size ≤ w3.heap.size := hti3.size
          have hX4 : ZB w4 X := by rw [hw]; exact hX3.alloc _
          have hXY : X ≠ w3.heap.size := Nat.ne_of_lt hX3.lt
          obtain ⟨Y, he⟩ : ∃ q, w3.heap.size = q := ⟨_, rfl⟩
          rw [he] at hY4 lY hXY ⊢
          clear he hw
          refine hK.out _ _ (fun _ => TS.out _ hti4) (fun _ => ?_)
          clear hK K
          try simp only [Act.put, List.setIfInBounds_toArray, List.set_cons_zero, List.set_cons_succ]
          obtain ⟨x0, x1, x2, x3⟩ := hX4.cells
          obtain ⟨y0, y1, y2, y3⟩ := hY4.cells
          have hYX : Y ≠ X := Ne.symm hXY
          refine anyG_one (i := 12) rfl (by kernel_rfl) (fun K hK => ?_)
          go_simp
          refine hK.out _ _ (fun h => absurd h (by decide)) (fun _ => ?_)
          clear hK K
          try simp only [Act.put, List.setIfInBounds_toArray, List.set_cons_zero, List.set_cons_succ]
          have y0' : ((w4.setCell ⟨X, 0, none⟩ (.int .u64 (pf a fl tot : Nat))).setCell ⟨X, 1, none⟩ (.int .u64 (pf b fl tot : Nat))).cell? ⟨Y, 0, none⟩ = some (.int .u64 0) := by simp [World.cell?_setCell_far, hXY, y0]
          have y1' : ((w4.setCell ⟨X, 0, none⟩ (.int .u64 (pf a fl tot : Nat))).setCell ⟨X, 1, none⟩ (.int .u64 (pf b fl tot : Nat))).cell? ⟨Y, 1, none⟩ = some (.int .u64 0) := by simp [World.cell?_setCell_far, hXY, y1]
          refine anyG_one (i := 13) rfl (by kernel_rfl) (fun K hK => ?_)
          go_simp
          refine hK.out _ _ (fun h => absurd h (by decide)) (fun _ => ?_)
          clear hK K
          try simp only [Act.put, List.setIfInBounds_toArray, List.set_cons_zero, List.set_cons_succ]
          refine anyG_done (by kernel_rfl) ?_ _
          refine NoPanic.normal ?_
          have hleaf := leaf_facts hti4 hX4 hY4 hXY lX lY lBW (.int .u64 (pf a fl tot : Nat)) (.int .u64 (pf b fl tot : Nat)) (.int .u64 (pf a fl D : Nat)) (.int .u64 (pf b fl D : Nat))
          clear x0 x1 x2 x3 y0 y1 y2 y3 y0' y1'
          go_wp2
          go_meet
          exact ⟨X, Y, rfl, rfl, hleaf⟩
        · go_simp
          obtain ⟨w3, hw⟩ : ∃ q, q = w2.alloc (.cells #[.int .u64 0, .int .u64 0] 36) := ⟨_, rfl⟩
          rw [← hw]
          have hti3 : TI B g a b W0 w3 := by rw [hw]; exact hti2.alloc _
          have hY3 : ZB w3 w2.heap.size := by rw [hw]; exact zb_new w2
          have lY : W0.heap.size ≤ w2.heap.size := hti2.size
          have hX3 : ZB w3 X := by rw [hw]; exact hX2.alloc _
          have hXY : X ≠ w2.heap.size := Nat.ne_of_lt hX2.lt
          obtain ⟨Y, he⟩ : ∃ q, w2.heap.size = q := ⟨_, rfl⟩
          rw [he] at hY3 lY hXY ⊢
          clear he hw
          refine hK.out _ _ (fun _ => TS.out _ hti3) (fun _ => ?_)
          clear hK K
          try simp only [Act.put, List.setIfInBounds_toArray, List.set_cons_zero, List.set_cons_succ]
          refine anyG_one (i := 9) rfl (by kernel_rfl) (fun K hK => ?_)
          go_simp
          refine (HH.out D w3 hmd.out hti3).mono ?_
          rintro e w4 ⟨rfl, hti4, hz4⟩
          dsimp only
          have hX4 : ZB w4 X := hz4.keep hX3 lX
          have hY4 : ZB w4 Y := hz4.keep hY3 lY
          refine hK.out _ _ (fun _ => TS.out _ hti4) (fun _ => ?_)
          clear hK K hz4
          try simp only [Act.put, List.setIfInBounds_toArray, List.set_cons_zero, List.set_cons_succ]
          obtain ⟨x0, x1, x2, x3⟩ := hX4.cells
          obtain ⟨y0, y1, y2, y3⟩ := hY4.cells
          have hYX : Y ≠ X := Ne.symm hXY
          refine anyG_one (i := 12) rfl (by kernel_rfl) (fun K hK => ?_)
          go_simp
          refine hK.out _ _ (fun h => absurd h (by decide)) (fun _ => ?_)
          clear hK K
          try simp only [Act.put, List.setIfInBounds_toArray, List.set_cons_zero, List.set_cons_succ]
          have y0' : ((w4.setCell ⟨X, 0, none⟩ (.int .u64 (pf a fl tot : Nat))).setCell ⟨X, 1, none⟩ (.int .u64 (pf b fl tot : Nat))).cell? ⟨Y, 0, none⟩ = some (.int .u64 0) := by simp [World.cell?_setCell_far, hXY, y0]
          have y1' : ((w4.setCell ⟨X, 0, none⟩ (.int .u64 (pf a fl tot : Nat))).setCell ⟨X, 1, none⟩ (.int .u64 (pf b fl tot : Nat))).cell? ⟨Y, 1, none⟩ = some (.int .u64 0) := by simp [World.cell?_setCell_far, hXY, y1]
          refine anyG_one (i := 13) rfl (by kernel_rfl) (fun K hK => ?_)
          go_simp
          refine hK.out _ _ (fun h => absurd h (by decide)) (fun _ => ?_)
          clear hK K
          try simp only [Act.put, List.setIfInBounds_toArray, List.set_cons_zero, List.set_cons_succ]
          refine anyG_done (by kernel_rfl) ?_ _
          refine NoPanic.normal ?_
          have hleaf := leaf_facts hti4 hX4 hY4 hXY lX lY lBW (.int .u64 (pf a fl tot : Nat)) (.int .u64 (pf b fl tot : Nat)) (.int .u64 (pf a fl D : Nat)) (.int .u64 (pf b fl D : Nat))
          clear x0 x1 x2 x3 y0 y1 y2 y3 y0' y1'
          go_wp2
          go_meet
          exact ⟨X, Y, rfl, rfl, hleaf⟩
      · go_simp
        obtain ⟨w2, hw⟩ : ∃ q, q = w1.alloc (.cells #[.int .u64 0, .int .u64 0] 36) := ⟨_, rfl⟩
        rw [← hw]
        have hti2 : TI B g a b W0 w2 := by rw [hw]; exact hti1.alloc _
        have hY2 : ZB w2 w1.heap.size := by rw [hw]; exact zb_new w1
        have lY : W0.heap.size ≤ w1.heap.size := hti1.size
        obtain ⟨Y, he⟩ : ∃ q, w1.heap.size = q := ⟨_, rfl⟩
        rw [he] at hY2 lY ⊢
        clear he hw
        refine hK.out _ _ (fun _ => TS.out _ hti2) (fun _ => ?_)
        clear hK K
        try simp only [Act.put, List.setIfInBounds_toArray, List.set_cons_zero, List.set_cons_succ]
        refine anyG_two (i := 9) (j := 10) rfl rfl (by kernel_rfl) (fun K hK => ?_) (fun K hK => ?_)
        · go_simp
          refine (HH.out D w2 hmd.out hti2).mono ?_
          rintro e w3 ⟨rfl, hti3, hz3⟩
          dsimp only
          have hY3 : ZB w3 Y := hz3.keep hY2 lY
          refine hK.out _ _ (fun _ => TS.out _ hti3) (fun _ => ?_)
          clear hK K hz3
          try simp only [Act.put, List.setIfInBounds_toArray, List.set_cons_zero, List.set_cons_succ]
          refine anyG_one (i := 10) rfl (by kernel_rfl) (fun K hK => ?_)
          go_simp
          obtain ⟨w4, hw⟩ : ∃ q, q = w3.alloc (.cells #[.int .u64 0, .int .u64 0] 36) := ⟨_, rfl⟩
          rw [← hw]
          have hti4 : TI B g a b W0 w4 := by rw [hw]; exact hti3.alloc _
          have hX4 : ZB w4 w3.heap.size := by rw [hw]; exact zb_new w3
          have lX : W0.heap.size ≤ w3.heap.size := hti3.size
          have hY4 : ZB w4 Y := by rw [hw]; exact hY3.alloc _
          have hXY : w3.heap.size ≠ Y := Nat.ne_of_gt hY3.lt
          obtain ⟨X, he⟩ : ∃ q, w3.heap.size = q := ⟨_, rfl⟩
          rw [he] at hX4 lX hXY ⊢
          clear he hw
          refine hK.out _ _ (fun _ => TS.out _ hti4) (fun _ => ?_)
          clear hK K
          try simp only [Act.put, List.setIfInBounds_toArray, List.set_cons_zero, List.set_cons_succ]
          obtain ⟨x0, x1, x2, x3⟩ := hX4.cells
          obtain ⟨y0, y1, y2, y3⟩ := hY4.cells
          have hYX : Y ≠ X := Ne.symm hXY
          refine anyG_one (i := 12) rfl (by kernel_rfl) (fun K hK => ?_)
          go_simp
          refine hK.out _ _ (fun h => absurd h (by decide)) (fun _ => ?_)
          clear hK K
          try simp only [Act.put, List.setIfInBounds_toArray, List.set_cons_zero, List.set_cons_succ]
          have y0' : ((w4.setCell ⟨X, 0, none⟩ (.int .u64 (pf a fl tot : Nat))).setCell ⟨X, 1, none⟩ (.int .u64 (pf b fl tot : Nat))).cell? ⟨Y, 0, none⟩ = some (.int .u64 0) := by simp [World.cell?_setCell_far, hXY, y0]
          have y1' : ((w4.setCell ⟨X, 0, none⟩ (.int .u64 (pf a fl tot : Nat))).setCell ⟨X, 1, none⟩ (.int .u64 (pf b fl tot : Nat))).cell? ⟨Y, 1, none⟩ = some (.int .u64 0) := by simp [World.cell?_setCell_far, hXY, y1]
          refine anyG_one (i := 13) rfl (by kernel_rfl) (fun K hK => ?_)
          go_simp
          refine hK.out _ _ (fun h => absurd h (by decide)) (fun _ => ?_)
          clear hK K
          try simp only [Act.put, List.setIfInBounds_toArray, List.set_cons_zero, List.set_cons_succ]
          refine anyG_done (by kernel_rfl) ?_ _
          refine NoPanic.normal ?_
          have hleaf := leaf_facts hti4 hX4 hY4 hXY lX lY lBW (.int .u64 (pf a fl tot : Nat)) (.int .u64 (pf b fl tot : Nat)) (.int .u64 (pf a fl D : Nat)) (.int .u64 (pf b fl D : Nat))
          clear x0 x1 x2 x3 y0 y1 y2 y3 y0' y1'
          go_wp2
          go_meet
          exact ⟨X, Y, rfl, rfl, hleaf⟩
        · go_simp
          obtain ⟨w3, hw⟩ : ∃ q, q = w2.alloc (.cells #[.int .u64 0, .int .u64 0] 36) := ⟨_, rfl⟩
          rw [← hw]
          have hti3 : TI B g a b W0 w3 := by rw [hw]; exact hti2.alloc _
          have hX3 : ZB w3 w2.heap.size := by rw [hw]; exact zb_new w2
          have lX : W0.heap.size ≤ w2.heap.size := hti2.size
          have hY3 : ZB w3 Y := by rw [hw]; exact hY2.alloc _
          have hXY : w2.heap.size ≠ Y := Nat.ne_of_gt hY2.lt
          obtain ⟨X, he⟩ : ∃ q, w2.heap.size = q := ⟨_, rfl⟩
          rw [he] at hX3 lX hXY ⊢
          clear he hw
          refine hK.out _ _ (fun _ => TS.out _ hti3) (fun _ => ?_)
          clear hK K
          try simp only [Act.put, List.setIfInBounds_toArray, List.set_cons_zero, List.set_cons_succ]
          refine anyG_one (i := 9) rfl (by kernel_rfl) (fun K hK => ?_)
          go_simp
          refine (HH.out D w3 hmd.out hti3).mono ?_
          rintro e w4 ⟨rfl, hti4, hz4⟩
          dsimp only
          have hX4 : ZB w4 X := hz4.keep hX3 lX
          have hY4 : ZB w4 Y := hz4.keep hY3 lY
          refine hK.out _ _ (fun _ => TS.out _ hti4) (fun _ => ?_)
          clear hK K hz4
          try simp only [Act.put, List.setIfInBounds_toArray, List.set_cons_zero, List.set_cons_succ]
          obtain ⟨x0, x1, x2, x3⟩ := hX4.cells
          obtain ⟨y0, y1, y2, y3⟩ := hY4.cells
          have hYX : Y ≠ X := Ne.symm hXY
          refine anyG_one (i := 12) rfl (by kernel_rfl) (fun K hK => ?_)
          go_simp
          refine hK.out _ _ (fun h => absurd h (by decide)) (fun _ => ?_)
          clear hK K
          try simp only [Act.put, List.setIfInBounds_toArray, List.set_cons_zero, List.set_cons_succ]
          have y0' : ((w4.setCell ⟨X, 0, none⟩ (.int .u64 (pf a fl tot : Nat))).setCell ⟨X, 1, none⟩ (.int .u64 (pf b fl tot : Nat))).cell? ⟨Y, 0, none⟩ = some (.int .u64 0) := by simp [World.cell?_setCell_far, hXY, y0]
          have y1' : ((w4.setCell ⟨X, 0, none⟩ (.int .u64 (pf a fl tot : Nat))).setCell ⟨X, 1, none⟩ (.int .u64 (pf b fl tot : Nat))).cell? ⟨Y, 1, none⟩ = some (.int .u64 0) := by simp [World.cell?_setCell_far, hXY, y1]
          refine anyG_one (i := 13) rfl (by kernel_rfl) (fun K hK => ?_)
          go_simp
          refine hK.out _ _ (fun h => absurd h (by decide)) (fun _ => ?_)
          clear hK K
          try simp only [Act.put, List.setIfInBounds_toArray, List.set_cons_zero, List.set_cons_succ]
          refine anyG_done (by kernel_rfl) ?_ _
          refine NoPanic.normal ?_
          have hleaf := leaf_facts hti4 hX4 hY4 hXY lX lY lBW (.int .u64 (pf a fl tot : Nat)) (.int .u64 (pf b fl tot : Nat)) (.int .u64 (pf a fl D : Nat)) (.int .u64 (pf b fl D : Nat))
          clear x0 x1 x2 x3 y0 y1 y2 y3 y0' y1'
          go_wp2
          go_meet
          exact ⟨X, Y, rfl, rfl, hleaf⟩
    · go_simp
      obtain ⟨w1, hw⟩ : ∃ q, q = w0.alloc (.cells #[.int .u64 0, .int .u64 0] 36) := ⟨_, rfl⟩
      rw [← hw]
      have hti1 : TI B g a b W0 w1 := by rw [hw]; exact hti0.alloc _
      have hX1 : ZB w1 w0.heap.size := by rw [hw]; exact zb_new w0
      have lX : W0.heap.size ≤ w0.heap.size := hti0.size
      obtain ⟨X, he⟩ : ∃ q, w0.heap.size = q := ⟨_, rfl⟩
      rw [he] at hX1 lX ⊢
      clear he hw
      refine hK.out _ _ (fun _ => TS.out _ hti1) (fun _ => ?_)
      clear hK K
      try simp only [Act.put, List.setIfInBounds_toArray, List.set_cons_zero, List.set_cons_succ]
      refine anyG_two (i := 3) (j := 11) rfl rfl (by kernel_rfl) (fun K hK => ?_) (fun K hK => ?_)
      · go_simp
        refine (HH.out tot w1 hmt.out hti1).mono ?_
        rintro e w2 ⟨rfl, hti2, hz2⟩
        dsimp only
        have hX2 : ZB w2 X := hz2.keep hX1 lX
        refine hK.out _ _ (fun _ => TS.out _ hti2) (fun _ => ?_)
        clear hK K hz2
        try simp only [Act.put, List.setIfInBounds_toArray, List.set_cons_zero, List.set_cons_succ]
        refine anyG_two (i := 9) (j := 11) rfl rfl (by kernel_rfl) (fun K hK => ?_) (fun K hK => ?_)
        · go_simp
          refine (HH.out D w2 hmd.out hti2).mono ?_
          rintro e w3 ⟨rfl, hti3, hz3⟩
          dsimp only
          have hX3 : ZB w3 X := hz3.keep hX2 lX
          refine hK.out _ _ (fun _ => TS.out _ hti3) (fun _ => ?_)
          clear hK K hz3
          try simp only [Act.put, List.setIfInBounds_toArray, List.set_cons_zero, List.set_cons_succ]
          refine anyG_one (i := 11) rfl (by kernel_rfl) (fun K hK => ?_)
          go_simp
          obtain ⟨w4, hw⟩ : ∃ q, q = w3.alloc (.cells #[.int .u64 0, .int .u64 0] 36) := ⟨_, rfl⟩
          rw [← hw]
          have hti4 : TI B g a b W0 w4 := by rw [hw]; exact hti3.alloc _
          have hY4 : ZB w4 w3.heap.size := by rw [hw]; exact zb_new w3
          have lY : W0.heap.size ≤ w3.heap.size := hti3.size
          have hX4 : ZB w4 X := by rw [hw]; exact hX3.alloc _
          have hXY : X ≠ w3.heap.size := Nat.ne_of_lt hX3.lt
          obtain ⟨Y, he⟩ : ∃ q, w3.heap.size = q := ⟨_, rfl⟩
          rw [he] at hY4 lY hXY ⊢
          clear he hw
          refine hK.out _ _ (fun _ => TS.out _ hti4) (fun _ => ?_)
          clear hK K
          try simp only [Act.put, List.setIfInBounds_toArray, List.set_cons_zero, List.set_cons_succ]
          obtain ⟨x0, x1, x2, x3⟩ := hX4.cells
          obtain ⟨y0, y1, y2, y3⟩ := hY4.cells
          have hYX : Y ≠ X := Ne.symm hXY
          refine anyG_one (i := 12) rfl (by kernel_rfl) (fun K hK => ?_)
          go_simp
          refine hK.out _ _ (fun h => absurd h (by decide)) (fun _ => ?_)
          clear hK K
          try simp only [Act.put, List.setIfInBounds_toArray, List.set_cons_zero, List.set_cons_succ]
          have y0' : ((w4.setCell ⟨X, 0, none⟩ (.int .u64 (pf a fl tot : Nat))).setCell ⟨X, 1, none⟩ (.int .u64 (pf b fl tot : Nat))).cell? ⟨Y, 0, none⟩ = some (.int .u64 0) := by simp [World.cell?_setCell_far, hXY, y0]
          have y1' : ((w4.setCell ⟨X, 0, none⟩ (.int .u64 (pf a fl tot : Nat))).setCell ⟨X, 1, none⟩ (.int .u64 (pf b fl tot : Nat))).cell? ⟨Y, 1, none⟩ = some (.int .u64 0) := by simp [World.cell?_setCell_far, hXY, y1]
          refine anyG_one (i := 13) rfl (by kernel_rfl) (fun K hK => ?_)
          go_simp
          refine hK.out _ _ (fun h => absurd h (by decide)) (fun _ => ?_)
          clear hK K
          try simp only [Act.put, List.setIfInBounds_toArray, List.set_cons_zero, List.set_cons_succ]
          refine anyG_done (by kernel_rfl) ?_ _
          refine NoPanic.normal ?_
          have hleaf := leaf_facts hti4 hX4 hY4 hXY lX lY lBW (.int .u64 (pf a fl tot : Nat)) (.int .u64 (pf b fl tot : Nat)) (.int .u64 (pf a fl D : Nat)) (.int .u64 (pf b fl D : Nat))
          clear x0 x1 x2 x3 y0 y1 y2 y3 y0' y1'
          go_wp2
          go_meet
          exact ⟨X, Y, rfl, rfl, hleaf⟩
        · go_simp
          obtain ⟨w3, hw⟩ : ∃ q, q = w2.alloc (.cells #[.int .u64 0, .int .u64 0] 36) := ⟨_, rfl⟩
          rw [← hw]
          have hti3 : TI B g a b W0 w3 := by rw [hw]; exact hti2.alloc _
          have hY3 : ZB w3 w2.heap.size := by rw [hw]; exact zb_new w2
          have lY : W0.heap.size ≤ w2.heap.size := hti2.size
          have hX3 : ZB w3 X := by rw [hw]; exact hX2.alloc _
          have hXY : X ≠ w2.heap.size := Nat.ne_of_lt hX2.lt
          obtain ⟨Y, he⟩ : ∃ q, w2.heap.size = q := ⟨_, rfl⟩
          rw [he] at hY3 lY hXY ⊢
          clear he hw
          refine hK.out _ _ (fun _ => TS.out _ hti3) (fun _ => ?_)
          clear hK K
          try simp only [Act.put, List.setIfInBounds_toArray, List.set_cons_zero, List.set_cons_succ]
          refine anyG_one (i := 9) rfl (by kernel_rfl) (fun K hK => ?_)
          go_simp
          refine (HH.out D w3 hmd.out hti3).mono ?_
          rintro e w4 ⟨rfl, hti4, hz4⟩
          dsimp only
          have hX4 : ZB w4 X := hz4.keep hX3 lX
          have hY4 : ZB w4 Y := hz4.keep hY3 lY
          refine hK.out _ _ (fun _ => TS.out _ hti4) (fun _ => ?_)
          clear hK K hz4
          try simp only [Act.put, List.setIfInBounds_toArray, List.set_cons_zero, List.set_cons_succ]
          obtain ⟨x0, x1, x2, x3⟩ := hX4.cells
          obtain ⟨y0, y1, y2, y3⟩ := hY4.cells
          have hYX : Y ≠ X := Ne.symm hXY
          refine anyG_one (i := 12) rfl (by kernel_rfl) (fun K hK => ?_)
          go_simp
          refine hK.out _ _ (fun h => absurd h (by decide)) (fun _ => ?_)
          clear hK K
          try simp only [Act.put, List.setIfInBounds_toArray, List.set_cons_zero, List.set_cons_succ]
          have y0' : ((w4.setCell ⟨X, 0, none⟩ (.int .u64 (pf a fl tot : Nat))).setCell ⟨X, 1, none⟩ (.int .u64 (pf b fl tot : Nat))).cell? ⟨Y, 0, none⟩ = some (.int .u64 0) := by simp [World.cell?_setCell_far, hXY, y0]
          have y1' : ((w4.setCell ⟨X, 0, none⟩ (.int .u64 (pf a fl tot : Nat))).setCell ⟨X, 1, none⟩ (.int .u64 (pf b fl tot : Nat))).cell? ⟨Y, 1, none⟩ = some (.int .u64 0) := by simp [World.cell?_setCell_far, hXY, y1]
          refine anyG_one (i := 13) rfl (by kernel_rfl) (fun K hK => ?_)
          go_simp
          refine hK.out _ _ (fun h => absurd h (by decide)) (fun _ => ?_)
          clear hK K
          try simp only [Act.put, List.setIfInBounds_toArray, List.set_cons_zero, List.set_cons_succ]
          refine anyG_done (by kernel_rfl) ?_ _
          refine NoPanic.normal ?_
          have hleaf := leaf_facts hti4 hX4 hY4 hXY lX lY lBW (.int .u64 (pf a fl tot : Nat)) (.int .u64 (pf b fl tot : Nat)) (.int .u64 (pf a fl D : Nat)) (.int .u64 (pf b fl D : Nat))
          clear x0 x1 x2 x3 y0 y1 y2 y3 y0' y1'
          go_wp2
          go_meet
          exact ⟨X, Y, rfl, rfl, hleaf⟩
      · go_simp
        obtain ⟨w2, hw⟩ : ∃ q, q = w1.alloc (.cells #[.int .u64 0, .int .u64 0] 36) := ⟨_, rfl⟩
        rw [← hw]
        have hti2 : TI B g a b W0 w2 := by rw [hw]; exact hti1.alloc _
        have hY2 : ZB w2 w1.heap.size := by rw [hw]; exact zb_new w1
        have lY : W0.heap.size ≤ w1.heap.size := hti1.size
        have hX2 : ZB w2 X := by rw [hw]; exact hX1.alloc _
        have hXY : X ≠ w1.heap.size := Nat.ne_of_lt hX1.lt
        obtain ⟨Y, he⟩ : ∃ q, w1.heap.size = q := ⟨_, rfl⟩
        rw [he] at hY2 lY hXY ⊢
        clear he hw
        refine hK.out _ _ (fun _ => TS.out _ hti2) (fun _ => ?_)
        clear hK K
        try simp only [Act.put, List.setIfInBounds_toArray, List.set_cons_zero, List.set_cons_succ]
        refine anyG_one (i := 3) rfl (by kernel_rfl) (fun K hK => ?_)
        go_simp
        refine (HH.out tot w2 hmt.out hti2).mono ?_
        rintro e w3 ⟨rfl, hti3, hz3⟩
        dsimp only
        have hX3 : ZB w3 X := hz3.keep hX2 lX
        have hY3 : ZB w3 Y := hz3.keep hY2 lY
        refine hK.out _ _ (fun _ => TS.out _ hti3) (fun _ => ?_)
        clear hK K hz3
        try simp only [Act.put, List.setIfInBounds_toArray, List.set_cons_zero, List.set_cons_succ]
        refine anyG_one (i := 9) rfl (by kernel_rfl) (fun K hK => ?_)
        go_simp
        refine (HH.out D w3 hmd.out hti3).mono ?_
        rintro e w4 ⟨rfl, hti4, hz4⟩
        dsimp only
        have hX4 : ZB w4 X := hz4.keep hX3 lX
        have hY4 : ZB w4 Y := hz4.keep hY3 lY
        refine hK.out _ _ (fun _ => TS.out _ hti4) (fun _ => ?_)
        clear hK K hz4
        try simp only [Act.put, List.setIfInBounds_toArray, List.set_cons_zero, List.set_cons_succ]
        obtain ⟨x0, x1, x2, x3⟩ := hX4.cells
        obtain ⟨y0, y1, y2, y3⟩ := hY4.cells
        have hYX : Y ≠ X := Ne.symm hXY
        refine anyG_one (i := 12) rfl (by kernel_rfl) (fun K hK => ?_)
        go_simp
        refine hK.out _ _ (fun h => absurd h (by decide)) (fun _ => ?_)
        clear hK K
        try simp only [Act.put, List.setIfInBounds_toArray, List.set_cons_zero, List.set_cons_succ]
        have y0' : ((w4.setCell ⟨X, 0, none⟩ (.int .u64 (pf a fl tot : Nat))).setCell ⟨X, 1, none⟩ (.int .u64 (pf b fl tot : Nat))).cell? ⟨Y, 0, none⟩ = some (.int .u64 0) := by simp [World.cell?_setCell_far, hXY, y0]
        have y1' : ((w4.setCell ⟨X, 0, none⟩ (.int .u64 (pf a fl tot : Nat))).setCell ⟨X, 1, none⟩ (.int .u64 (pf b fl tot : Nat))).cell? ⟨Y, 1, none⟩ = some (.int .u64 0) := by simp [World.cell?_setCell_far, hXY, y1]
        refine anyG_one (i := 13) rfl (by kernel_rfl) (fun K hK => ?_)
        go_simp
        refine hK.out _ _ (fun h => absurd h (by decide)) (fun _ => ?_)
        clear hK K
        try simp only [Act.put, List.setIfInBounds_toArray, List.set_cons_zero, List.set_cons_succ]
        refine anyG_done (by kernel_rfl) ?_ _
        refine NoPanic.normal ?_
        have hleaf := leaf_facts hti4 hX4 hY4 hXY lX lY lBW (.int .u64 (pf a fl tot : Nat)) (.int .u64 (pf b fl tot : Nat)) (.int .u64 (pf a fl D : Nat)) (.int .u64 (pf b fl D : Nat))
        clear x0 x1 x2 x3 y0 y1 y2 y3 y0' y1'
        go_wp2
        go_meet
        exact ⟨X, Y, rfl, rfl, hleaf⟩
    · go_simp
      obtain ⟨w1, hw⟩ : ∃ q, q = w0.alloc (.cells #[.int .u64 0, .int .u64 0] 36) := ⟨_, rfl⟩
      rw [← hw]
      have hti1 : TI B g a b W0 w1 := by rw [hw]; exact hti0.alloc _
      have hY1 : ZB w1 w0.heap.size := by rw [hw]; exact zb_new w0
      have lY : W0.heap.size ≤ w0.heap.size := hti0.size
      obtain ⟨Y, he⟩ : ∃ q, w0.heap.size = q := ⟨_, rfl⟩
      rw [he] at hY1 lY ⊢
      clear he hw
      refine hK.out _ _ (fun _ => TS.out _ hti1) (fun _ => ?_)
      clear hK K
      try simp only [Act.put, List.setIfInBounds_toArray, List.set_cons_zero, List.set_cons_succ]
      refine anyG_two (i := 3) (j := 10) rfl rfl (by kernel_rfl) (fun K hK => ?_) (fun K hK => ?_)
      · go_simp
        refine (HH.out tot w1 hmt.out hti1).mono ?_
        rintro e w2 ⟨rfl, hti2, hz2⟩
        dsimp only
        have hY2 : ZB w2 Y := hz2.keep hY1 lY
        refine hK.out _ _ (fun _ => TS.out _ hti2) (fun _ => ?_)
        clear hK K hz2
        try simp only [Act.put, List.setIfInBounds_toArray, List.set_cons_zero, List.set_cons_succ]
        refine anyG_two (i := 9) (j := 10) rfl rfl (by kernel_rfl) (fun K hK => ?_) (fun K hK => ?_)
        · go_simp
          refine (HH.out D w2 hmd.out hti2).mono ?_
          rintro e w3 ⟨rfl, hti3, hz3⟩
          dsimp only
          have hY3 : ZB w3 Y := hz3.keep hY2 lY
          refine hK.out _ _ (fun _ => TS.out _ hti3) (fun _ => ?_)
          clear hK K hz3
          try simp only [Act.put, List.setIfInBounds_toArray, List.set_cons_zero, List.set_cons_succ]
          refine anyG_one (i := 10) rfl (by kernel_rfl) (fun K hK => ?_)
          go_simp
          obtain ⟨w4, hw⟩ : ∃ q, q = w3.alloc (.cells #[.int .u64 0, .int .u64 0] 36) := ⟨_, rfl⟩
          rw [← hw]
          have hti4 : TI B g a b W0 w4 := by rw [hw]; exact hti3.alloc _
          have hX4 : ZB w4 w3.heap.size := by rw [hw]; exact zb_new w3
          have lX : W0.heap.size ≤ w3.heap.size := hti3.size
          have hY4 : ZB w4 Y := by rw [hw]; exact hY3.alloc _
          have hXY : w3.heap.size ≠ Y := Nat.ne_of_gt hY3.lt
          obtain ⟨X, he⟩ : ∃ q, w3.heap.size = q := ⟨_, rfl⟩
          rw [he] at hX4 lX hXY ⊢
          clear he hw
          refine hK.out _ _ (fun _ => TS.out _ hti4) (fun _ => ?_)
          clear hK K
          try simp only [Act.put, List.setIfInBounds_toArray, List.set_cons_zero, List.set_cons_succ]
          obtain ⟨x0, x1, x2, x3⟩ := hX4.cells
          obtain ⟨y0, y1, y2, y3⟩ := hY4.cells
          have hYX : Y ≠ X := Ne.symm hXY
          refine anyG_one (i := 12) rfl (by kernel_rfl) (fun K hK => ?_)
          go_simp
          refine hK.out _ _ (fun h => absurd h (by decide)) (fun _ => ?_)
          clear hK K
          try simp only [Act.put, List.setIfInBounds_toArray, List.set_cons_zero, List.set_cons_succ]
          have y0' : ((w4.setCell ⟨X, 0, none⟩ (.int .u64 (pf a fl tot : Nat))).setCell ⟨X, 1, none⟩ (.int .u64 (pf b fl tot : Nat))).cell? ⟨Y, 0, none⟩ = some (.int .u64 0) := by simp [World.cell?_setCell_far, hXY, y0]
          have y1' : ((w4.setCell ⟨X, 0, none⟩ (.int .u64 (pf a fl tot : Nat))).setCell ⟨X, 1, none⟩ (.int .u64 (pf b fl tot : Nat))).cell? ⟨Y, 1, none⟩ = some (.int .u64 0) := by simp [World.cell?_setCell_far, hXY, y1]
          refine anyG_one (i := 13) rfl (by kernel_rfl) (fun K hK => ?_)
          go_simp
          refine hK.out _ _ (fun h => absurd h (by decide)) (fun _ => ?_)
          clear hK K
          try simp only [Act.put, List.setIfInBounds_toArray, List.set_cons_zero, List.set_cons_succ]
          refine anyG_done (by kernel_rfl) ?_ _
          refine NoPanic.normal ?_
          have hleaf := leaf_facts hti4 hX4 hY4 hXY lX lY lBW (.int .u64 (pf a fl tot : Nat)) (.int .u64 (pf b fl tot : Nat)) (.int .u64 (pf a fl D : Nat)) (.int .u64 (pf b fl D : Nat))
          clear x0 x1 x2 x3 y0 y1 y2 y3 y0' y1'
          go_wp2
          go_meet
          exact ⟨X, Y, rfl, rfl, hleaf⟩
        · go_simp
          obtain ⟨w3, hw⟩ : ∃ q, q = w2.alloc (.cells #[.int .u64 0, .int .u64 0] 36) := ⟨_, rfl⟩
          rw [← hw]
          have hti3 : TI B g a b W0 w3 := by rw [hw]; exact hti2.alloc _
          have hX3 : ZB w3 w2.heap.size := by rw [hw]; exact zb_new w2
          have lX : W0.heap.size ≤ w2.heap.size := hti2.size
          have hY3 : ZB w3 Y := by rw [hw]; exact hY2.alloc _
          have hXY : w2.heap.size ≠ Y := Nat.ne_of_gt hY2.lt
          obtain ⟨X, he⟩ : ∃ q, w2.heap.size = q := ⟨_, rfl⟩
          rw [he] at hX3 lX hXY ⊢
          clear he hw
          refine hK.out _ _ (fun _ => TS.out _ hti3) (fun _ => ?_)
          clear hK K
          try simp only [Act.put, List.setIfInBounds_toArray, List.set_cons_zero, List.set_cons_succ]
          refine anyG_one (i := 9) rfl (by kernel_rfl) (fun K hK => ?_)
          go_simp
          refine (HH.out D w3 hmd.out hti3).mono ?_
          rintro e w4 ⟨rfl, hti4, hz4⟩
          dsimp only
          have hX4 : ZB w4 X := hz4.keep hX3 lX
          have hY4 : ZB w4 Y := hz4.keep hY3 lY
          refine hK.out _ _ (fun _ => TS.out _ hti4) (fun _ => ?_)
          clear hK K hz4
          try simp only [Act.put, List.setIfInBounds_toArray, List.set_cons_zero, List.set_cons_succ]
          obtain ⟨x0, x1, x2, x3⟩ := hX4.cells
          obtain ⟨y0, y1, y2, y3⟩ := hY4.cells
          have hYX : Y ≠ X := Ne.symm hXY
          refine anyG_one (i := 12) rfl (by kernel_rfl) (fun K hK => ?_)
          go_simp
          refine hK.out _ _ (fun h => absurd h (by decide)) (fun _ => ?_)
          clear hK K
          try simp only [Act.put, List.setIfInBounds_toArray, List.set_cons_zero, List.set_cons_succ]
          have y0' : ((w4.setCell ⟨X, 0, none⟩ (.int .u64 (pf a fl tot : Nat))).setCell ⟨X, 1, none⟩ (.int .u64 (pf b fl tot : Nat))).cell? ⟨Y, 0, none⟩ = some (.int .u64 0) := by simp [World.cell?_setCell_far, hXY, y0]
          have y1' : ((w4.setCell ⟨X, 0, none⟩ (.int .u64 (pf a fl tot : Nat))).setCell ⟨X, 1, none⟩ (.int .u64 (pf b fl tot : Nat))).cell? ⟨Y, 1, none⟩ = some (.int .u64 0) := by simp [World.cell?_setCell_far, hXY, y1]
          refine anyG_one (i := 13) rfl (by kernel_rfl) (fun K hK => ?_)
          go_simp
          refine hK.out _ _ (fun h => absurd h (by decide)) (fun _ => ?_)
          clear hK K
          try simp only [Act.put, List.setIfInBounds_toArray, List.set_cons_zero, List.set_cons_succ]
          refine anyG_done (by kernel_rfl) ?_ _
          refine NoPanic.normal ?_
          have hleaf := leaf_facts hti4 hX4 hY4 hXY lX lY lBW (.int .u64 (pf a fl tot : Nat)) (.int .u64 (pf b fl tot : Nat)) (.int .u64 (pf a fl D : Nat)) (.int .u64 (pf b fl D : Nat))
          clear x0 x1 x2 x3 y0 y1 y2 y3 y0' y1'
          go_wp2
          go_meet
          exact ⟨X, Y, rfl, rfl, hleaf⟩
      · go_simp
        obtain ⟨w2, hw⟩ : ∃ q, q = w1.alloc (.cells #[.int .u64 0, .int .u64 0] 36) := ⟨_, rfl⟩
        rw [← hw]
        have hti2 : TI B g a b W0 w2 := by rw [hw]; exact hti1.alloc _
        have hX2 : ZB w2 w1.heap.size := by rw [hw]; exact zb_new w1
        have lX : W0.heap.size ≤ w1.heap.size := hti1.size
        have hY2 : ZB w2 Y := by rw [hw]; exact hY1.alloc _
        have hXY : w1.heap.size ≠ Y := Nat.ne_of_gt hY1.lt
        obtain ⟨X, he⟩ : ∃ q, w1.heap.size = q := ⟨_, rfl⟩
        rw [he] at hX2 lX hXY ⊢
        clear he hw
        refine hK.out _ _ (fun _ => TS.out _ hti2) (fun _ => ?_)
        clear hK K
        try simp only [Act.put, List.setIfInBounds_toArray, List.set_cons_zero, List.set_cons_succ]
        refine anyG_one (i := 3) rfl (by kernel_rfl) (fun K hK => ?_)
        go_simp
        refine (HH.out tot w2 hmt.out hti2).mono ?_
        rintro e w3 ⟨rfl, hti3, hz3⟩
        dsimp only
        have hX3 : ZB w3 X := hz3.keep hX2 lX
        have hY3 : ZB w3 Y := hz3.keep hY2 lY
        refine hK.out _ _ (fun _ => TS.out _ hti3) (fun _ => ?_)
        clear hK K hz3
        try simp only [Act.put, List.setIfInBounds_toArray, List.set_cons_zero, List.set_cons_succ]
        refine anyG_one (i := 9) rfl (by kernel_rfl) (fun K hK => ?_)
        go_simp
        refine (HH.out D w3 hmd.out hti3).mono ?_
        rintro e w4 ⟨rfl, hti4, hz4⟩
        dsimp only
        have hX4 : ZB w4 X := hz4.keep hX3 lX
        have hY4 : ZB w4 Y := hz4.keep hY3 lY
        refine hK.out _ _ (fun _ => TS.out _ hti4) (fun _ => ?_)
        clear hK K hz4
        try simp only [Act.put, List.setIfInBounds_toArray, List.set_cons_zero, List.set_cons_succ]
        obtain ⟨x0, x1, x2, x3⟩ := hX4.cells
        obtain ⟨y0, y1, y2, y3⟩ := hY4.cells
        have hYX : Y ≠ X := Ne.symm hXY
        refine anyG_one (i := 12) rfl (by kernel_rfl) (fun K hK => ?_)
        go_simp
        refine hK.out _ _ (fun h => absurd h (by decide)) (fun _ => ?_)
        clear hK K
        try simp only [Act.put, List.setIfInBounds_toArray, List.set_cons_zero, List.set_cons_succ]
        have y0' : ((w4.setCell ⟨X, 0, none⟩ (.int .u64 (pf a fl tot : Nat))).setCell ⟨X, 1, none⟩ (.int .u64 (pf b fl tot : Nat))).cell? ⟨Y, 0, none⟩ = some (.int .u64 0) := by simp [World.cell?_setCell_far, hXY, y0]
        have y1' : ((w4.setCell ⟨X, 0, none⟩ (.int .u64 (pf a fl tot : Nat))).setCell ⟨X, 1, none⟩ (.int .u64 (pf b fl tot : Nat))).cell? ⟨Y, 1, none⟩ = some (.int .u64 0) := by simp [World.cell?_setCell_far, hXY, y1]
        refine anyG_one (i := 13) rfl (by kernel_rfl) (fun K hK => ?_)
        go_simp
        refine hK.out _ _ (fun h => absurd h (by decide)) (fun _ => ?_)
        clear hK K
        try simp only [Act.put, List.setIfInBounds_toArray, List.set_cons_zero, List.set_cons_succ]
        refine anyG_done (by kernel_rfl) ?_ _
        refine NoPanic.normal ?_
        have hleaf := leaf_facts hti4 hX4 hY4 hXY lX lY lBW (.int .u64 (pf a fl tot : Nat)) (.int .u64 (pf b fl tot : Nat)) (.int .u64 (pf a fl D : Nat)) (.int .u64 (pf b fl D : Nat))
        clear x0 x1 x2 x3 y0 y1 y2 y3 y0' y1'
        go_wp2
        go_meet
        exact ⟨X, Y, rfl, rfl, hleaf⟩
  case rest =>
    obtain ⟨X, Y, rfl, rfl, hleaf⟩ := hcut
    obtain ⟨g1, cap1, n1, hF1, hn1, hg1, hbut1, nX, nY, lX, lY, hX, hY⟩ := hleaf
    have ord := HOrd.out
    have lgw := Hlg.out
    have apx := HApx.out
    have kRB : wc.heap[RB]? = W0.heap[RB]? := hbut1.block RB (by omega) (by omega) (by omega)
    have kTX : wc.heap[TX]? = W0.heap[TX]? := hbut1.block TX apx.lt.1 apx.nB.1 apx.ng.1
    have kRS : wc.heap[RS]? = W0.heap[RS]? := hbut1.block RS (by omega) (by omega) (by omega)
    have r0 : wc.cell? ⟨RB, 0, none⟩ = some (.pointer (some ⟨TX, 0, none⟩)) := cell_of_block (kRB.trans HRB.out) 0
    have t0 : wc.cell? ⟨TX, 0, none⟩ = some (.pointer (some ⟨B, 0, none⟩)) := cell_of_block (kTX.trans HTX.out) 0
    have hkk := HKK.out
    have cP := power_any B g1 cap1 a b n1 K wc hF1 la lb hn1 (by omega)
    have HP : Hid (Calls Yba.prog 21 #[.pointer (some ⟨B, 0, none⟩), .int .i64 K] wc fun e w' => e = .returned (.agg #[.int .u64 (pw a K : Nat), .int .u64 (pw b K : Nat)]) ∧ ∃ g' cap' n', Fpr w' B g' cap' a b n' ∧ n' < 1000000 ∧ (g' = g1 ∨ wc.heap.size ≤ g') ∧ But B g1 wc w') := cP
    have HLf : Hid ((g1 = g ∨ W0.heap.size ≤ g1) ∧ But B g W0 wc ∧ X ≠ g1 ∧ Y ≠ g1 ∧ W0.heap.size ≤ X ∧ W0.heap.size ≤ Y ∧ wc.heap[X]? = some (.cells #[.int .u64 (pf a fl tot : Nat), .int .u64 (pf b fl tot : Nat)] 36 (0, 0)) ∧ wc.heap[Y]? = some (.cells #[.int .u64 (pf a fl D : Nat), .int .u64 (pf b fl D : Nat)] 36 (0, 0)) ∧ wc.heap[RS]? = W0.heap[RS]?) := ⟨hg1, hbut1, nX, nY, lX, lY, hX, hY, kRS⟩
    clear hF1 hn1 hg1 hbut1 nX nY lX lY hX hY kRB kTX kRS cP ord lgw apx hkk TS HH hti0 hmt hmd
    go_wp2_with fail
    refine HP.out.mono ?_
    rintro e w2 ⟨rfl, g2, cap2, n2, hF2, hn2, hg2, hbut2⟩
    obtain ⟨hg1, hbut1, nX, nY, lX, lY, hX, hY, kRS⟩ := HLf.out
    have ord := HOrd.out
    have lgw := Hlg.out
    have hs2 := hbut2.size
    have hs1 := hbut1.size
    have lXw := lt_of_heap hX
    have lYw := lt_of_heap hY
    have hX2 : w2.heap[X]? = some (.cells #[.int .u64 (pf a fl tot : Nat), .int .u64 (pf b fl tot : Nat)] 36 (0, 0)) := (hbut2.block X lXw (by omega) nX).trans hX
    have hY2 : w2.heap[Y]? = some (.cells #[.int .u64 (pf a fl D : Nat), .int .u64 (pf b fl D : Nat)] 36 (0, 0)) := (hbut2.block Y lYw (by omega) nY).trans hY
    have hRS2 : w2.heap[RS]? = some (.cells #[.int .u64 0, .int .u64 0] 36 (0, 0)) := ((hbut2.block RS (by omega) (by omega) (by omega)).trans kRS).trans HRS.out
    have x0 : w2.cell? ⟨X, 0, none⟩ = some (.int .u64 (pf a fl tot : Nat)) := cell_of_block hX2 0
    have x1 : w2.cell? ⟨X, 1, none⟩ = some (.int .u64 (pf b fl tot : Nat)) := cell_of_block hX2 1
    have y0 : w2.cell? ⟨Y, 0, none⟩ = some (.int .u64 (pf a fl D : Nat)) := cell_of_block hY2 0
    have y1 : w2.cell? ⟨Y, 1, none⟩ = some (.int .u64 (pf b fl D : Nat)) := cell_of_block hY2 1
    have z0 : w2.cell? ⟨RS, 0, none⟩ = some (.int .u64 0) := cell_of_block hRS2 0
    have z1 : w2.cell? ⟨RS, 1, none⟩ = some (.int .u64 0) := cell_of_block hRS2 1
    have z2 : w2.frozen? ⟨RS, 0, none⟩ = false := frozen_of_block hRS2
    have z3 : w2.frozen? ⟨RS, 1, none⟩ = false := frozen_of_block hRS2
    have lX2 : X < w2.heap.size := lt_of_heap hX2
    have lY2 : Y < w2.heap.size := lt_of_heap hY2
    have lR2 : RS < w2.heap.size := lt_of_heap hRS2
    have ne1 : RS ≠ X := by omega
    have ne2 : RS ≠ Y := by omega
    have ne3 : RS ≠ w2.heap.size := by omega
    have nX2 : w2.heap.size ≠ X := by omega
    have nY2 : w2.heap.size ≠ Y := by omega
    have HF2 : Hid (Fpr w2 B g2 cap2 a b n2) := hF2
    have HB2 : Hid (But B g W0 w2) := hbut1.trans hbut2 hg1
    have HN2 : Hid (B ≠ RS ∧ g2 ≠ RS) := ⟨by omega, by omega⟩
    have HG2 : Hid (g2 = g ∨ w.heap.size ≤ g2) := by show g2 = g ∨ w.heap.size ≤ g2; omega
    have HRS2 : Hid (w2.heap[RS]? = some (.cells #[.int .u64 0, .int .u64 0] 36 (0, 0))) := hRS2
    have HRl : Hid (w.heap.size ≤ RS) := by show w.heap.size ≤ RS; omega
    have pa := pw_lt a K
    have pb := pw_lt b K
    have p1 := pf_lt a fl tot
    have p2 := pf_lt b fl tot
    have p3 := pf_lt a fl D
    have p4 := pf_lt b fl D
    clear HLf HP hg1 hbut1 nX nY lX lY hX hY kRS ord lgw hs2 hs1 lXw lYw hX2 hY2 hRS2 hF2 hg2 hbut2 r0 t0
    go_wp2
    go_region_held3 (fun w' => w'.cell? ⟨X, 0, none⟩ = some (.int .u64 (pf a fl tot : Nat)) ∧ w'.cell? ⟨X, 1, none⟩ = some (.int .u64 (pf b fl tot : Nat)) ∧ w'.cell? ⟨Y, 0, none⟩ = some (.int .u64 (pf a fl D : Nat)) ∧ w'.cell? ⟨Y, 1, none⟩ = some (.int .u64 (pf b fl D : Nat)) ∧ w'.cell? ⟨w2.heap.size, 0, none⟩ = some (.int .u64 (pw a K : Nat)) ∧ w'.cell? ⟨w2.heap.size, 1, none⟩ = some (.int .u64 (pw b K : Nat))) (simp [*, World.cell?_alloc_past, World.cell?_alloc_at, World.cell?_setCell_far])
      (first
        | (go_at_call 20; refine (mulMod_any _ _ (by assumption) (by assumption) _).mono ?_; rintro e w' ⟨rfl, rfl⟩)
        | (go_at_call 22; refine (subMod_any _ _ (by assumption) (mm_lt _ _) _).mono ?_; rintro e w' ⟨rfl, rfl⟩))
    go_wp2
    obtain ⟨t0, t1⟩ := pair_stored HRS2.out (.int .u64 (sm (pf a fl tot) (mm (pf a fl D) (pw a K)) : Nat)) (.int .u64 (sm (pf b fl tot) (mm (pf b fl D) (pw b K)) : Nat))
    obtain ⟨k1, k2⟩ := close_pair HB2.out (Below.refl _ _) HF2.out HN2.out (.int .u64 (sm (pf a fl tot) (mm (pf a fl D) (pw a K)) : Nat)) (.int .u64 (sm (pf b fl tot) (mm (pf b fl D) (pw b K)) : Nat)) HBW.out HRl.out
    obtain ⟨k3, k4⟩ := close_alloc (o := .cells #[.int .u64 (pw a K : Nat), .int .u64 (pw b K : Nat)] 36) k1 k2
    exact bodyPost_ret (v := .agg #[.int .u64 (sm (pf a fl tot) (mm (pf a fl D) (pw a K)) : Nat), .int .u64 (sm (pf b fl tot) (mm (pf b fl D) (pw b K)) : Nat)]) (by simp [results, Yba.results10, go_sem, World.cell?_alloc_past, lR2, t0, t1]) rfl ⟨rfl, g2, cap2, n2, k3, hn2, HG2.out, k4⟩

#print axioms tail_any
end Go.Proofs.Ybulkese
