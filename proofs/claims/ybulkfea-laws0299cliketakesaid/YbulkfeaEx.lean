/-
  AN EXPLANATION IN MEMORY, WITH ITS FOOTPRINT; what an append to one of its rows and the store of the new slice do to it.
-/
import Derived.Test.YbulkfeaSmall
namespace Go.Proofs.Ybulkfea
open Go.RowKit

structure Ex (φ : Nat → Prop) (w : World) (A : Nat) (rule : Int) (tr : Bool) (hv fv : Value) (n m : Nat) (hs : List H1) (fs : List Int) : Prop where
  fA : φ A
  fh : ∀ k, hv.ownBlock = some k → φ k
  ff : ∀ k, fv.ownBlock = some k → φ k
  fp : ∀ h ∈ hs, φ h.q
  blk : w.heap[A]? = some (.cells #[hv, .int .i64 rule, .bool tr, fv, .int .i64 (-1)] 29 (0, 0))
  hown : w.ownsRow 0 33 2 hv n (hitCells hs)
  fown : w.ownsRow 0 3 1 fv m (fs.map (Value.int .i64))
  paths : Paths w hs

/-- Every block outside φ is kept. -/
structure Fr (φ : Nat → Prop) (w w' : World) : Prop where
  os : w'.os = w.os
  tape : w'.tape = w.tape
  output : w'.output = w.output
  size : w.heap.size ≤ w'.heap.size
  block : ∀ k, k < w.heap.size → ¬ φ k → w'.heap[k]? = w.heap[k]?

variable {φ ψ : Nat → Prop} {w w' w'' : World} {A : Nat} {rule : Int} {tr : Bool} {hv fv : Value} {n m : Nat} {hs : List H1} {fs : List Int}

theorem Fr.trans (h : Fr φ w w') (h' : Fr φ w' w'') : Fr φ w w'' :=
  ⟨h'.os.trans h.os, h'.tape.trans h.tape, h'.output.trans h.output, Nat.le_trans h.size h'.size, fun k hk hn => (h'.block k (Nat.lt_of_lt_of_le hk h.size) hn).trans (h.block k hk hn)⟩
theorem Fr.mono (h : Fr φ w w') (hm : ∀ k, k < w.heap.size → φ k → ψ k) : Fr ψ w w' := ⟨h.os, h.tape, h.output, h.size, fun k hk hn => h.block k hk (fun hp => hn (hm k hk hp))⟩
theorem Fr.refl (φ : Nat → Prop) (w : World) : Fr φ w w := ⟨rfl, rfl, rfl, Nat.le_refl _, fun _ _ _ => rfl⟩
theorem Fr.alloc (h : Fr φ w w') (o : Obj) : Fr φ w (w'.alloc o) :=
  h.trans ⟨rfl, rfl, rfl, by simp, fun k hk _ => alloc_old w' o k hk⟩
theorem Fr.drew (h : Fr φ w w') : Fr φ w w'.drew := ⟨h.os, h.tape, h.output, h.size, h.block⟩
theorem Fr.grown {row : Option Nat} (h : Fr φ w w') (hg : w'.grownBy w'' row) (hr : ∀ k, row = some k → φ k) : Fr φ w w'' :=
  h.trans ⟨hg.os, hg.tape, hg.output, hg.size, fun k hk hn => hg.block k hk (fun e => hn (hr k e.symm))⟩
theorem Fr.setCell (h : Fr φ w w') (a : Addr) (v : Value) (ha : φ a.block) : Fr φ w (w'.setCell a v) :=
  h.trans ⟨rfl, rfl, rfl, by simp, fun k _ hn => Below.heap_setCell w' a v k (fun e => hn (by rw [e]; exact ha))⟩
theorem Fr.of_below (h : Below w.heap.size w w') : Fr φ w w' := ⟨h.os, h.tape, h.output, h.size, fun k hk _ => h.block k hk⟩
theorem Fr.below {B : Nat} (h : Fr φ w w') (hB : B ≤ w.heap.size) (hn : ∀ k, k < B → ¬ φ k) : Below B w w' := ⟨h.os, h.tape, h.output, h.size, fun k hk => h.block k (by omega) (hn k hk)⟩

theorem own_fr {e size : Nat} {v : Value} {xs : List Value} (h : w.ownsRow 0 e size v n xs) (hf : Fr φ w w') (hk : ∀ k, v.ownBlock = some k → ¬ φ k) : w'.ownsRow 0 e size v n xs := by
  refine ⟨h.1, ?_⟩
  rcases h.2 with hn | ⟨g, cap, cur, rfl, hb, hg, rest⟩
  · exact .inl hn
  · exact .inr ⟨g, cap, cur, rfl, hb, by rw [hf.block g (heap_lt hg) (hk g rfl)]; exact hg, rest⟩

theorem Ex.fr (h : Ex ψ w A rule tr hv fv n m hs fs) (hf : Fr φ w w') (hd : ∀ k, ψ k → ¬ φ k) : Ex ψ w' A rule tr hv fv n m hs fs :=
  ⟨h.fA, h.fh, h.ff, h.fp, by rw [hf.block A (heap_lt h.blk) (hd A h.fA)]; exact h.blk, own_fr h.hown hf (fun k hk => hd k (h.fh k hk)), own_fr h.fown hf (fun k hk => hd k (h.ff k hk)),
    fun x hx => by rw [hf.block x.q (heap_lt (h.paths x hx)) (hd x.q (h.fp x hx))]; exact h.paths x hx⟩

theorem Ex.mono (h : Ex φ w A rule tr hv fv n m hs fs) (hm : ∀ k, k < w.heap.size → φ k → ψ k) : Ex ψ w A rule tr hv fv n m hs fs :=
  ⟨hm A (heap_lt h.blk) h.fA, fun k hk => hm k (h.hown.lt k hk).2 (h.fh k hk), fun k hk => hm k (h.fown.lt k hk).2 (h.ff k hk), fun x hx => hm x.q (heap_lt (h.paths x hx)) (h.fp x hx), h.blk, h.hown, h.fown, h.paths⟩

theorem ne_of_kind {a b : Nat} {c d : Array Value} {e f : TypeId} {x y : Nat × Nat} (h : w.heap[a]? = some (.cells c e x)) (h' : w.heap[b]? = some (.cells d f y)) (hne : e ≠ f) : a ≠ b := by
  rintro rfl
  rw [h] at h'
  cases h'
  exact hne rfl

theorem heap_setCell_at {w : World} {b i : Nat} {cs : Array Value} {T : TypeId} {fr : Nat × Nat} (hb : w.heap[b]? = some (.cells cs T fr)) (v : Value) :
    (w.setCell ⟨b, i, none⟩ v).heap[b]? = some (.cells (cs.setIfInBounds i v) T fr) := by
  simp [World.setCell, Array.getElem?_modify, hb]

/-- THE HITS' ROW IS APPENDED TO, AND THE NEW SLICE STORED. -/
theorem Ex.addHit {w1 : World} {g cap : Nat} {x : H1} (h : Ex φ w A rule tr hv fv n m hs fs) (hφ : ∀ k, w.heap.size ≤ k → φ k) (ho : w1.ownsRow 0 33 2 (.slice (some ⟨g, 0, none⟩) (n + 1) cap) (n + 1) (hitCells hs ++ [.slice (some ⟨x.q, 0, none⟩) 1 1, .iface 2 (.int .i64 x.v)]))
    (hg : w.grownBy w1 hv.ownBlock) (hat : hv.ownBlock = some g ∨ g = w.heap.size) (hx : φ x.q) (hp : w.heap[x.q]? = some (.cells #[.iface 9 (.string x.s)] 20 (0, 0))) :
    Ex φ (w1.setCell ⟨A, 0, none⟩ (.slice (some ⟨g, 0, none⟩) (n + 1) cap)) A rule tr (.slice (some ⟨g, 0, none⟩) (n + 1) cap) fv (n + 1) m (hs ++ [x]) fs ∧ Fr φ w (w1.setCell ⟨A, 0, none⟩ (.slice (some ⟨g, 0, none⟩) (n + 1) cap)) := by
  have far : ∀ {k : Nat} {c : Array Value} {e : TypeId} {z : Nat × Nat}, w.heap[k]? = some (.cells c e z) → e ≠ 33 → w1.heap[k]? = some (.cells c e z) := fun {k c e z} hk he => by
    rw [hg.block k (heap_lt hk) (fun e' => by
      obtain ⟨c', z', hk'⟩ := own_kind h.hown k e'.symm
      exact ne_of_kind hk hk' he rfl)]
    exact hk
  have hA := far h.blk (by decide)
  obtain ⟨cg, zg, hcg⟩ := own_kind ho g rfl
  have hgA : g ≠ A := ne_of_kind hcg hA (by decide)
  have keep : ∀ k, k ≠ A → (w1.setCell ⟨A, 0, none⟩ (.slice (some ⟨g, 0, none⟩) (n + 1) cap)).heap[k]? = w1.heap[k]? := fun k hk => Below.heap_setCell w1 ⟨A, 0, none⟩ _ k hk
  have fφ : φ g := by
    rcases hat with hat | hat
    · exact h.fh g hat
    · exact hφ g (by omega)
  refine ⟨⟨h.fA, fun k hk => ?_, h.ff, fun y hy => ?_, ?_, ?_, ?_, fun y hy => ?_⟩, ((Fr.refl φ w).grown hg h.fh).setCell _ _ h.fA⟩
  · cases hk; exact fφ
  · rcases List.mem_append.1 hy with hy | hy
    · exact h.fp y hy
    · obtain rfl : y = x := by simpa using hy
      exact hx
  · rw [heap_setCell_at hA]; rfl
  · rw [hitCells_append]
    refine ⟨ho.1, ?_⟩
    rcases ho.2 with ⟨e, _⟩ | ⟨g', c', cur, e, hb, hh, rest⟩
    · cases e
    · cases e
      exact .inr ⟨g, cap, cur, rfl, hb, by rw [keep g hgA]; exact hh, rest⟩
  · refine ⟨h.fown.1, ?_⟩
    rcases h.fown.2 with hn | ⟨g', c', cur, rfl, hb, hh, rest⟩
    · exact .inl hn
    · have hh1 := far hh (by decide)
      exact .inr ⟨g', c', cur, rfl, hb, by rw [keep g' (ne_of_kind hh1 hA (by decide))]; exact hh1, rest⟩
  · have hy' : w.heap[y.q]? = some (.cells #[.iface 9 (.string y.s)] 20 (0, 0)) := by
      rcases List.mem_append.1 hy with hy | hy
      · exact h.paths y hy
      · obtain rfl : y = x := by simpa using hy
        exact hp
    have hh1 := far hy' (by decide)
    rw [keep y.q (ne_of_kind hh1 hA (by decide))]; exact hh1

/-- THE ROW 'from' IS APPENDED TO, AND THE NEW SLICE STORED. -/
theorem Ex.addFrom {w1 : World} {g cap : Nat} {r : Int} (h : Ex φ w A rule tr hv fv n m hs fs) (hφ : ∀ k, w.heap.size ≤ k → φ k) (ho : w1.ownsRow 0 3 1 (.slice (some ⟨g, 0, none⟩) (m + 1) cap) (m + 1) (fs.map (Value.int .i64) ++ [.int .i64 r]))
    (hg : w.grownBy w1 fv.ownBlock) (hat : fv.ownBlock = some g ∨ g = w.heap.size) :
    Ex φ (w1.setCell ⟨A, 3, none⟩ (.slice (some ⟨g, 0, none⟩) (m + 1) cap)) A rule tr hv (.slice (some ⟨g, 0, none⟩) (m + 1) cap) n (m + 1) hs (fs ++ [r]) ∧ Fr φ w (w1.setCell ⟨A, 3, none⟩ (.slice (some ⟨g, 0, none⟩) (m + 1) cap)) := by
  have far : ∀ {k : Nat} {c : Array Value} {e : TypeId} {z : Nat × Nat}, w.heap[k]? = some (.cells c e z) → e ≠ 3 → w1.heap[k]? = some (.cells c e z) := fun {k c e z} hk he => by
    rw [hg.block k (heap_lt hk) (fun e' => by
      obtain ⟨c', z', hk'⟩ := own_kind h.fown k e'.symm
      exact ne_of_kind hk hk' he rfl)]
    exact hk
  have hA := far h.blk (by decide)
  obtain ⟨cg, zg, hcg⟩ := own_kind ho g rfl
  have hgA : g ≠ A := ne_of_kind hcg hA (by decide)
  have keep : ∀ k, k ≠ A → (w1.setCell ⟨A, 3, none⟩ (.slice (some ⟨g, 0, none⟩) (m + 1) cap)).heap[k]? = w1.heap[k]? := fun k hk => Below.heap_setCell w1 ⟨A, 3, none⟩ _ k hk
  have fφ : φ g := by
    rcases hat with hat | hat
    · exact h.ff g hat
    · exact hφ g (by omega)
  refine ⟨⟨h.fA, h.fh, fun k hk => ?_, h.fp, ?_, ?_, ?_, fun y hy => ?_⟩, ((Fr.refl φ w).grown hg h.ff).setCell _ _ h.fA⟩
  · cases hk; exact fφ
  · rw [heap_setCell_at hA]; rfl
  · refine ⟨h.hown.1, ?_⟩
    rcases h.hown.2 with hn | ⟨g', c', cur, rfl, hb, hh, rest⟩
    · exact .inl hn
    · have hh1 := far hh (by decide)
      exact .inr ⟨g', c', cur, rfl, hb, by rw [keep g' (ne_of_kind hh1 hA (by decide))]; exact hh1, rest⟩
  · rw [List.map_append]
    refine ⟨ho.1, ?_⟩
    rcases ho.2 with ⟨e, _⟩ | ⟨g', c', cur, e, hb, hh, rest⟩
    · cases e
    · cases e
      exact .inr ⟨g, cap, cur, rfl, hb, by rw [keep g hgA]; exact hh, rest⟩
  · have hh1 := far (h.paths y hy) (by decide)
    rw [keep y.q (ne_of_kind hh1 hA (by decide))]; exact hh1

theorem Ex.cells (h : Ex φ w A rule tr hv fv n m hs fs) : w.cell? ⟨A, 0, none⟩ = some hv ∧ w.cell? ⟨A, 1, none⟩ = some (.int .i64 rule) ∧ w.cell? ⟨A, 2, none⟩ = some (.bool tr) ∧ w.cell? ⟨A, 3, none⟩ = some fv ∧ ∀ j, w.frozen? ⟨A, j, none⟩ = false := by
  have hb := h.blk
  refine ⟨?_, ?_, ?_, ?_, fun j => ?_⟩
  · simp [World.cell?, hb]
  · simp [World.cell?, hb]
  · simp [World.cell?, hb]
  · simp [World.cell?, hb]
  · simp [World.frozen?, hb]

end Go.Proofs.Ybulkfea
