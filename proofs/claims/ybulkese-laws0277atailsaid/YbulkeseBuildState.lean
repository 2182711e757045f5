/-
  THE MEMORY OF zzs0277abuild's THIRD LOOP: five rows that grow.
-/
import Derived.Test.YbulkeseRunPlain
namespace Go.Proofs.Ybulkese
open Go.RowKit

def idCells (l : List Nat) : List Value := l.map fun (x : Nat) => .int .i32 (x : Int)
def spCells (L : Nat) (S : List (Nat × Nat)) : Nat → List Value
  | 0 => []
  | j + 1 => spCells L S j ++ [.int .i64 (spF L S j : Nat), .int .i64 (spT L S j : Nat)]
def atCells (L : Nat) (S : List (Nat × Nat)) (l : List Nat) : Nat → List Value
  | 0 => []
  | j + 1 => atCells L S l j ++ [.int .i64 (spA L S l j : Nat)]
def preCells (a b L : Nat) (S : List (Nat × Nat)) (l : List Nat) : Nat → List Value
  | 0 => []
  | j + 1 => preCells a b L S l j ++ [.int .u64 (hz a 0 (flTo L S l j) : Nat), .int .u64 (hz b 0 (flTo L S l j) : Nat)]
def runL (a b : Nat) (fl : List Nat) : List (Nat × Nat) := (List.range (fl.length + 1)).map fun k => (pf a fl k, pf b fl k)
def runCells (a b : Nat) (fl : List Nat) : List Value := fpCells (runL a b fl)

section
variable (a b L : Nat) (S : List (Nat × Nat)) (l : List Nat)
theorem idCells_snoc (x : Nat) : idCells (l ++ [x]) = idCells l ++ [.int .i32 (x : Nat)] := by simp [idCells]
theorem runL_snoc (fl : List Nat) (x : Nat) : runL a b (fl ++ [x]) = runL a b fl ++ [(am (mm (hz a 0 fl) a) (x + 1), am (mm (hz b 0 fl) b) (x + 1))] := by
  unfold runL
  rw [List.length_append, show fl.length + [x].length + 1 = (fl.length + 1) + 1 from rfl, List.range_succ, List.map_append]
  have e : ∀ c k, k < fl.length + 1 → pf c (fl ++ [x]) k = pf c fl k := fun c k hk => by
    unfold pf; rw [List.take_append_of_le_length (by omega)]
  have e2 : ∀ c, pf c (fl ++ [x]) (fl.length + 1) = am (mm (hz c 0 fl) c) (x + 1) := fun c => by
    unfold pf; rw [List.take_of_length_le (by simp), hz_snoc]
  congr 1
  · exact List.map_congr_left (fun k hk => by rw [e a k (List.mem_range.1 hk), e b k (List.mem_range.1 hk)])
  · simp [e2]
theorem runCells_snoc (fl : List Nat) (x : Nat) : runCells a b (fl ++ [x]) = runCells a b fl ++ [.int .u64 (am (mm (hz a 0 fl) a) (x + 1) : Nat), .int .u64 (am (mm (hz b 0 fl) b) (x + 1) : Nat)] := by
  unfold runCells; rw [runL_snoc, fpCells_append]; rfl
theorem runL_get (fl : List Nat) (k : Nat) (h : k ≤ fl.length) : (runL a b fl).getD k (0, 0) = (pf a fl k, pf b fl k) := by
  have hk : k < fl.length + 1 := by omega
  simp [runL, List.getD_eq_getElem?_getD, hk]
theorem runCells_get (fl : List Nat) (k : Nat) (h : k ≤ fl.length) : (runCells a b fl)[k * 2]? = some (.int .u64 (pf a fl k : Nat)) ∧ (runCells a b fl)[k * 2 + 1]? = some (.int .u64 (pf b fl k : Nat)) := by
  have := fpCells_get (runL a b fl) k (by simp [runL]; omega)
  rw [runL_get a b fl k h] at this
  exact this
theorem pf_all (c : Nat) (fl : List Nat) : pf c fl fl.length = hz c 0 fl := by unfold pf; rw [List.take_of_length_le (Nat.le_refl _)]
theorem spCells_length (j : Nat) : (spCells L S j).length = j * 2 := by
  induction j with
  | zero => rfl
  | succ j ih => simp [spCells, ih]; omega
theorem atCells_length (j : Nat) : (atCells L S l j).length = j := by
  induction j with
  | zero => rfl
  | succ j ih => simp [atCells, ih]
theorem preCells_length (j : Nat) : (preCells a b L S l j).length = j * 2 := by
  induction j with
  | zero => rfl
  | succ j ih => simp [preCells, ih]; omega
theorem spCells_get (n : Nat) : ∀ x, x < n → (spCells L S n)[x * 2]? = some (.int .i64 (spF L S x : Nat)) ∧ (spCells L S n)[x * 2 + 1]? = some (.int .i64 (spT L S x : Nat)) := by
  induction n with
  | zero => intro x hx; omega
  | succ n ih =>
    intro x hx
    have hl := spCells_length L S n
    by_cases e : x = n
    · subst e
      refine ⟨?_, ?_⟩
      · rw [spCells, List.getElem?_append_right (by omega), hl]; simp
      · rw [spCells, List.getElem?_append_right (by omega), hl]; simp
    · have := ih x (by omega)
      refine ⟨?_, ?_⟩
      · rw [spCells, List.getElem?_append_left (by omega)]; exact this.1
      · rw [spCells, List.getElem?_append_left (by omega)]; exact this.2
theorem atCells_get (n : Nat) : ∀ x, x < n → (atCells L S l n)[x]? = some (.int .i64 (spA L S l x : Nat)) := by
  induction n with
  | zero => intro x hx; omega
  | succ n ih =>
    intro x hx
    have hl := atCells_length L S l n
    by_cases e : x = n
    · subst e
      rw [atCells, List.getElem?_append_right (by omega), hl]; simp
    · rw [atCells, List.getElem?_append_left (by omega)]; exact ih x (by omega)
theorem preCells_get (n : Nat) : ∀ x, x < n → (preCells a b L S l n)[x * 2]? = some (.int .u64 (hz a 0 (flTo L S l x) : Nat)) ∧ (preCells a b L S l n)[x * 2 + 1]? = some (.int .u64 (hz b 0 (flTo L S l x) : Nat)) := by
  induction n with
  | zero => intro x hx; omega
  | succ n ih =>
    intro x hx
    have hl := preCells_length a b L S l n
    by_cases e : x = n
    · subst e
      refine ⟨?_, ?_⟩
      · rw [preCells, List.getElem?_append_right (by omega), hl]; simp
      · rw [preCells, List.getElem?_append_right (by omega), hl]; simp
    · have := ih x (by omega)
      refine ⟨?_, ?_⟩
      · rw [preCells, List.getElem?_append_left (by omega)]; exact this.1
      · rw [preCells, List.getElem?_append_left (by omega)]; exact this.2
end

/-- The five rows: three whose capacity was made ahead, two that move. -/
structure St (w2 : World) (H n gs ga gp : Nat) (cS cA cP cF cR : List Value) (ns na np gf nf cf gr nr cr : Nat) (wr : World) : Prop where
  bel : Below H w2 wr
  S : wr.ownsRow 0 52 2 (.slice (some ⟨gs, 0, none⟩) ns n) ns cS
  A : wr.ownsRow 0 3 1 (.slice (some ⟨ga, 0, none⟩) na n) na cA
  P : wr.ownsRow 0 36 2 (.slice (some ⟨gp, 0, none⟩) np n) np cP
  F : wr.ownsRow 0 21 1 (.slice (some ⟨gf, 0, none⟩) nf cf) nf cF
  R : wr.ownsRow 0 36 2 (.slice (some ⟨gr, 0, none⟩) nr cr) nr cR
  ord : H ≤ gs ∧ gs < ga ∧ ga < gp ∧ gp < gf ∧ gp < gr ∧ gf ≠ gr

section
variable {w2 wr W w1 : World} {H n gs ga gp : Nat} {cS cA cP cF cR : List Value} {ns na np gf nf cf gr nr cr : Nat}

theorem own_lt {e size g k cap : Nat} {xs : List Value} (h : wr.ownsRow 0 e size (.slice (some ⟨g, 0, none⟩) k cap) k xs) : g < wr.heap.size := (h.lt g rfl).2
theorem own_keep {e size g k cap : Nat} {xs : List Value} (h : wr.ownsRow 0 e size (.slice (some ⟨g, 0, none⟩) k cap) k xs) (he : w1.heap[g]? = wr.heap[g]?) : w1.ownsRow 0 e size (.slice (some ⟨g, 0, none⟩) k cap) k xs := by
  refine ⟨h.1, ?_⟩
  rcases h.2 with h2 | ⟨g', cap', cur, hv, h4, hg, r⟩
  · exact .inl h2
  · refine .inr ⟨g', cap', cur, hv, h4, ?_, r⟩
    simp only [Value.slice.injEq, Option.some.injEq, Addr.mk.injEq] at hv
    rw [← hv.1.1] at hg ⊢
    rw [he]; exact hg
theorem St.szH (h : St w2 H n gs ga gp cS cA cP cF cR ns na np gf nf cf gr nr cr wr) : gp < wr.heap.size := own_lt h.P
/-- New blocks, draws. -/
theorem St.grow (h : St w2 H n gs ga gp cS cA cP cF cR ns na np gf nf cf gr nr cr wr) (hb : Below wr.heap.size wr w1) : St w2 H n gs ga gp cS cA cP cF cR ns na np gf nf cf gr nr cr w1 := by
  have hs := h.szH
  have ho := h.ord
  exact ⟨h.bel.trans (hb.mono (by omega)), own_keep h.S (hb.block _ (by omega)), own_keep h.A (hb.block _ (by omega)), own_keep h.P (hb.block _ (by omega)), own_keep h.F (hb.block _ (own_lt h.F)), own_keep h.R (hb.block _ (own_lt h.R)), ho⟩
theorem below_grown {g : Nat} (hg : wr.grownBy w1 (some g)) (hH : H ≤ g) (hs : H ≤ wr.heap.size) : Below H wr w1 :=
  ⟨hg.os, hg.tape, hg.output, hg.size, fun k hk => hg.block k (by omega) (by simp; omega)⟩
theorem St.appS {m : Nat} {news : List Value} (h : St w2 H n gs ga gp cS cA cP cF cR ns na np gf nf cf gr nr cr wr) (ho : w1.ownsRow 0 52 2 (.slice (some ⟨gs, 0, none⟩) m n) m news) (hg : wr.grownBy w1 (some gs)) :
    St w2 H n gs ga gp news cA cP cF cR m na np gf nf cf gr nr cr w1 := by
  have hs := h.szH
  have hd := h.ord
  exact ⟨h.bel.trans (below_grown hg (by omega) (by omega)), ho, own_keep h.A (hg.block _ (by omega) (by simp; omega)), own_keep h.P (hg.block _ (by omega) (by simp; omega)), own_keep h.F (hg.block _ (own_lt h.F) (by simp; omega)), own_keep h.R (hg.block _ (own_lt h.R) (by simp; omega)), hd⟩
theorem St.appA {m : Nat} {news : List Value} (h : St w2 H n gs ga gp cS cA cP cF cR ns na np gf nf cf gr nr cr wr) (ho : w1.ownsRow 0 3 1 (.slice (some ⟨ga, 0, none⟩) m n) m news) (hg : wr.grownBy w1 (some ga)) :
    St w2 H n gs ga gp cS news cP cF cR ns m np gf nf cf gr nr cr w1 := by
  have hs := h.szH
  have hd := h.ord
  exact ⟨h.bel.trans (below_grown hg (by omega) (by omega)), own_keep h.S (hg.block _ (by omega) (by simp; omega)), ho, own_keep h.P (hg.block _ (by omega) (by simp; omega)), own_keep h.F (hg.block _ (own_lt h.F) (by simp; omega)), own_keep h.R (hg.block _ (own_lt h.R) (by simp; omega)), hd⟩
theorem St.appP {m : Nat} {news : List Value} (h : St w2 H n gs ga gp cS cA cP cF cR ns na np gf nf cf gr nr cr wr) (ho : w1.ownsRow 0 36 2 (.slice (some ⟨gp, 0, none⟩) m n) m news) (hg : wr.grownBy w1 (some gp)) :
    St w2 H n gs ga gp cS cA news cF cR ns na m gf nf cf gr nr cr w1 := by
  have hs := h.szH
  have hd := h.ord
  exact ⟨h.bel.trans (below_grown hg (by omega) (by omega)), own_keep h.S (hg.block _ (by omega) (by simp; omega)), own_keep h.A (hg.block _ (by omega) (by simp; omega)), ho, own_keep h.F (hg.block _ (own_lt h.F) (by simp; omega)), own_keep h.R (hg.block _ (own_lt h.R) (by simp; omega)), hd⟩
theorem St.appF {m g2 c2 : Nat} {news : List Value} (h : St w2 H n gs ga gp cS cA cP cF cR ns na np gf nf cf gr nr cr wr) (ho : w1.ownsRow 0 21 1 (.slice (some ⟨g2, 0, none⟩) m c2) m news) (hg : wr.grownBy w1 (some gf)) (hat : some gf = some g2 ∨ g2 = wr.heap.size) :
    St w2 H n gs ga gp cS cA cP news cR ns na np g2 m c2 gr nr cr w1 := by
  have hs := h.szH
  have hd := h.ord
  have h4 := own_lt h.R
  have hg2 : g2 = gf ∨ g2 = wr.heap.size := by
    rcases hat with e | e
    · left; simpa using e.symm
    · exact .inr e
  exact ⟨h.bel.trans (below_grown hg (by omega) (by omega)), own_keep h.S (hg.block _ (by omega) (by simp; omega)), own_keep h.A (hg.block _ (by omega) (by simp; omega)), own_keep h.P (hg.block _ (by omega) (by simp; omega)), ho, own_keep h.R (hg.block _ (own_lt h.R) (by simp; omega)), by omega⟩
theorem St.appR {m g2 c2 : Nat} {news : List Value} (h : St w2 H n gs ga gp cS cA cP cF cR ns na np gf nf cf gr nr cr wr) (ho : w1.ownsRow 0 36 2 (.slice (some ⟨g2, 0, none⟩) m c2) m news) (hg : wr.grownBy w1 (some gr)) (hat : some gr = some g2 ∨ g2 = wr.heap.size) :
    St w2 H n gs ga gp cS cA cP cF news ns na np gf nf cf g2 m c2 w1 := by
  have hs := h.szH
  have hd := h.ord
  have h4 := own_lt h.F
  have hg2 : g2 = gr ∨ g2 = wr.heap.size := by
    rcases hat with e | e
    · left; simpa using e.symm
    · exact .inr e
  exact ⟨h.bel.trans (below_grown hg (by omega) (by omega)), own_keep h.S (hg.block _ (by omega) (by simp; omega)), own_keep h.A (hg.block _ (by omega) (by simp; omega)), own_keep h.P (hg.block _ (by omega) (by simp; omega)), own_keep h.F (hg.block _ (own_lt h.F) (by simp; omega)), ho, by omega⟩
/-- The beginning: five new blocks. -/
theorem St.start (w2 : World) (n : Nat) (hn : n ≤ 256) :
    St w2 w2.heap.size n w2.heap.size (w2.heap.size + 1) (w2.heap.size + 1 + 1) [] [] [] [] [.int .u64 0, .int .u64 0] 0 0 0 (w2.heap.size + 1 + 1 + 1) 0 0 (w2.heap.size + 1 + 1 + 1 + 1) 1 1
      (((((w2.alloc (.cells (madeCells #[.int .i64 0, .int .i64 0] (n * 2)) 52)).alloc (.cells (madeCells #[.int .i64 0] (n * 1)) 3)).alloc (.cells (madeCells #[.int .u64 0, .int .u64 0] (n * 2)) 36)).alloc (.cells #[] 21)).alloc (.cells #[.int .u64 0, .int .u64 0] 36)) := by
  have hp : ∀ (o1 o2 o3 o4 o5 : Obj), (((((w2.alloc o1).alloc o2).alloc o3).alloc o4).alloc o5).heap = ((((w2.heap.push o1).push o2).push o3).push o4).push o5 := fun _ _ _ _ _ => rfl
  have g0 : ∀ (o1 o2 o3 o4 o5 : Obj), (((((w2.alloc o1).alloc o2).alloc o3).alloc o4).alloc o5).heap[w2.heap.size]? = some o1 := fun o1 o2 o3 o4 o5 => by
    rw [hp, Array.getElem?_push, if_neg (by simp <;> omega), Array.getElem?_push, if_neg (by simp <;> omega), Array.getElem?_push, if_neg (by simp <;> omega), Array.getElem?_push, if_neg (by simp), Array.getElem?_push, if_pos rfl]
  have g1 : ∀ (o1 o2 o3 o4 o5 : Obj), (((((w2.alloc o1).alloc o2).alloc o3).alloc o4).alloc o5).heap[w2.heap.size + 1]? = some o2 := fun o1 o2 o3 o4 o5 => by
    rw [hp, Array.getElem?_push, if_neg (by simp <;> omega), Array.getElem?_push, if_neg (by simp <;> omega), Array.getElem?_push, if_neg (by simp), Array.getElem?_push, if_pos (by simp)]
  have g2 : ∀ (o1 o2 o3 o4 o5 : Obj), (((((w2.alloc o1).alloc o2).alloc o3).alloc o4).alloc o5).heap[w2.heap.size + 1 + 1]? = some o3 := fun o1 o2 o3 o4 o5 => by
    rw [hp, Array.getElem?_push, if_neg (by simp <;> omega), Array.getElem?_push, if_neg (by simp), Array.getElem?_push, if_pos (by simp)]
  have g3 : ∀ (o1 o2 o3 o4 o5 : Obj), (((((w2.alloc o1).alloc o2).alloc o3).alloc o4).alloc o5).heap[w2.heap.size + 1 + 1 + 1]? = some o4 := fun o1 o2 o3 o4 o5 => by
    rw [hp, Array.getElem?_push, if_neg (by simp), Array.getElem?_push, if_pos (by simp)]
  have g4 : ∀ (o1 o2 o3 o4 o5 : Obj), (((((w2.alloc o1).alloc o2).alloc o3).alloc o4).alloc o5).heap[w2.heap.size + 1 + 1 + 1 + 1]? = some o5 := fun o1 o2 o3 o4 o5 => by
    rw [hp, Array.getElem?_push, if_pos (by simp)]
  refine ⟨?_, ⟨rfl, .inr ⟨_, n, _, rfl, Nat.zero_le _, g0 _ _ _ _ _, Nat.zero_le _, by unfold maxLen; omega, size_madeCells _ _, by simp⟩⟩, ⟨rfl, .inr ⟨_, n, _, rfl, Nat.zero_le _, g1 _ _ _ _ _, Nat.zero_le _, by unfold maxLen; omega, size_madeCells _ _, by simp⟩⟩,
    ⟨rfl, .inr ⟨_, n, _, rfl, Nat.zero_le _, g2 _ _ _ _ _, Nat.zero_le _, by unfold maxLen; omega, size_madeCells _ _, by simp⟩⟩, ⟨rfl, .inr ⟨_, 0, _, rfl, Nat.zero_le _, g3 _ _ _ _ _, Nat.le_refl _, by decide, rfl, rfl⟩⟩, ⟨rfl, .inr ⟨_, 1, _, rfl, Nat.zero_le _, g4 _ _ _ _ _, Nat.le_refl _, by decide, rfl, rfl⟩⟩, by omega⟩
  exact ((((((Below.refl _ _).alloc (Nat.le_refl _) _).alloc (by simp) _).alloc (by simp; omega) _).alloc (by simp; omega) _).alloc (by simp; omega) _)
/-- A cell of an owned row. -/
theorem own_cell {e size g k cap : Nat} {xs : List Value} (h : wr.ownsRow 0 e size (.slice (some ⟨g, 0, none⟩) k cap) k xs) {j : Nat} {u : Value} (hj : xs[j]? = some u) : wr.cell? ⟨g, j, none⟩ = some u := by
  have := h.cells (g := g) rfl j u hj
  rwa [show (⟨g, 0, none⟩ : Addr).add j = ⟨g, j, none⟩ by unfold Addr.add; split <;> simp_all] at this
theorem own_caps {e size g k cap : Nat} {xs : List Value} (h : wr.ownsRow 0 e size (.slice (some ⟨g, 0, none⟩) k cap) k xs) : k ≤ cap ∧ cap ≤ maxLen := by
  rcases h.2 with ⟨h1, _⟩ | ⟨g', cap', cur, hv, _, _, h1, h2, _⟩
  · cases h1
  · simp only [Value.slice.injEq] at hv
    obtain ⟨_, _, rfl⟩ := hv
    exact ⟨h1, h2⟩
end
#print axioms St.appR
end Go.Proofs.Ybulkese
