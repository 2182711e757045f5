/-
  A REGION THAT DRAWS ITS ORDER, WHOSE LAST STORE TURNS A CELL THAT ITS LOADS READ ('x.f = append(x.f, ..)'): the condition S is asked only while something is left to come up.
  After Derived/OrdersHeld.lean's law (the same induction); nothing here is trusted.
-/
import Derived.Deep.RegionHeld3
namespace Go.Proofs.Ybulkfea
open Go

section
variable {P : Program} {ops : Array Oper} {Q : Exit → Act → World → Prop} {md : Region.Mode} {S : World → Prop} {l : Nat}

/-- Whatever order is picked from here on, and S holds behind every operation that leaves something to come up. -/
def anyL (P : Program) (md : Region.Mode) (ops : Array Oper) (Q : Exit → Act → World → Prop) (S : World → Prop) (l : Nat) : Nat → Array Bool → Act → World → Prop
  | 0, listed, a, w => Region.ready md ops listed = [] ∧ Q .normal a w
  | fuel + 1, listed, a, w =>
    (Region.ready md ops listed = [] → Q .normal a w) ∧
    ∀ i ∈ Region.ready md ops listed, wpOp P ops Q i (fun a' w' => (i ≠ l → S w') ∧ anyL P md ops Q S l fuel (listed.setIfInBounds i true) a' w') a w

theorem any_of_L : ∀ (fuel : Nat) (listed : Array Bool) (a : Act) (w : World), anyL P md ops Q S l fuel listed a w → wpAny P md ops Q fuel listed a w
  | 0, _, _, _, h => h
  | fuel + 1, _, _, _, h => ⟨h.1, fun i hi => wpOp_mono (fun a' w' h' => any_of_L fuel _ a' w' h'.2) (h.2 i hi)⟩

/-- Number l waits for number i. -/
def waits (md : Region.Mode) (ops : Array Oper) (l i : Nat) : Bool :=
  match ops[l]? with
  | some o => o.after.any fun e => Region.binds md e && e.on == i
  | none => false
theorem waits_spec {i : Nat} (h : waits md ops l i = true) {o : Oper} (ho : ops[l]? = some o) : ∃ e ∈ o.after, Region.binds md e = true ∧ e.on = i := by
  unfold waits at h
  rw [ho] at h
  have h' : (o.after.any fun e => Region.binds md e && e.on == i) = true := h
  rw [Array.any_eq_true] at h'
  obtain ⟨k, hk, h1⟩ := h'
  rw [Bool.and_eq_true] at h1
  exact ⟨o.after[k], Array.getElem_mem hk, h1.1, by simpa using h1.2⟩

theorem anyL_first {i : Nat} {oi : Oper} {v : Value} (hi : ops[i]? = some oi) (hl : waits md ops l i = true) (hsel : ∀ (j : Nat) (o : Oper) cs b, ops[j]? = some o → o.op ≠ .select cs b)
    (hQ : ∀ c a w, Q (.panic c) (a.put oi.dst v) w → Q (.panic c) a w) :
    ∀ (fuel : Nat) (listed : Array Bool) (a : Act) (w : World),
      (∀ j oj, ops[j]? = some oj → j ≠ i → listed.getD j true = false → (∀ e ∈ oj.after, Region.binds md e = true → e.on ≠ i) → oi.apart ops oj = true) →
      i ∈ Region.ready md ops listed → YieldsIf P ops S oi v a → S w →
      anyL P md ops Q S l fuel (listed.setIfInBounds i true) (a.put oi.dst v) w → anyL P md ops Q S l (fuel + 1) listed a w := by
  intro fuel
  induction fuel with
  | zero =>
    intro listed a w _ hr hy hS H
    refine ⟨fun h => (by rw [h] at hr; cases hr), fun j hj => ?_⟩
    by_cases hji : j = i
    · subst hji; exact hy.wpOp hi hS ⟨fun _ => hS, H⟩
    · have := ready_mono hj hji
      rw [H.1] at this
      cases this
  | succ fuel ih =>
    intro listed a w hfree hr hy hS H
    refine ⟨fun h => (by rw [h] at hr; cases hr), fun j hj => ?_⟩
    by_cases hji : j = i
    · subst hji; exact hy.wpOp hi hS ⟨fun _ => hS, H⟩
    · have h1 := H.2 j (ready_mono hj hji)
      obtain ⟨hjun, oj, hoj, hall⟩ := mem_ready.1 hj
      have hnot : ∀ e ∈ oj.after, Region.binds md e = true → e.on ≠ i := fun e he hb heq => by
        have h1 := hall e he hb
        have h0 := (mem_ready.1 hr).1
        rw [heq] at h1
        rcases Nat.lt_or_ge i listed.size with h' | h'
        · simp [h'] at h0 h1; rw [h0] at h1; cases h1
        · simp [Array.getElem?_eq_none h'] at h1
      have h2 := wpOp_putIf hoj (hfree j oj hoj hji hjun hnot) (fun cs b => hsel i oi cs b hi) (fun cs b => hsel j oj cs b hoj) hQ hy h1
      have hfree' : ∀ k ok, ops[k]? = some ok → k ≠ i → (listed.setIfInBounds j true).getD k true = false →
          (∀ e ∈ ok.after, Region.binds md e = true → e.on ≠ i) → oi.apart ops ok = true := fun k ok hk hki hun hno => by
        refine hfree k ok hk hki ?_ hno
        by_cases hjk : j = k
        · subst hjk; exact hjun
        · rw [getD_set_ne true hjk] at hun; exact hun
      have hjl : j ≠ l := fun h => by
        subst h
        obtain ⟨e, he, hb, hon⟩ := waits_spec hl hoj
        exact hnot e he hb hon
      refine wpOp_mono (fun a' w' h3 => ⟨fun _ => h3.2.1 hjl, ih (listed.setIfInBounds j true) a' w' hfree' (ready_mono hr (Ne.symm hji)) h3.1 (h3.2.1 hjl) ?_⟩) h2
      rw [Array.setIfInBounds_comm _ _ hji]
      exact h3.2.2

/-! ### The moves of a walk -/
theorem anyL_take {i : Nat} {oi : Oper} {v : Value} {fuel : Nat} {listed : Array Bool} {a : Act} {w : World} (hi : ops[i]? = some oi) (hl : waits md ops l i = true)
    (hs : Region.noSelect ops = true) (hf : Region.free md ops listed i = true) (hr : (Region.ready md ops listed).contains i = true)
    (hQ : ∀ c a w, Q (.panic c) (a.put oi.dst v) w → Q (.panic c) a w) (hy : YieldsIf P ops S oi v a) (hS : S w)
    (h : anyL P md ops Q S l fuel (listed.setIfInBounds i true) (a.put oi.dst v) w) : anyL P md ops Q S l (fuel + 1) listed a w :=
  anyL_first hi hl (Region.noSelect_spec hs) hQ fuel listed a w (Region.free_spec hi hf) (by simpa using hr) hy hS h

/-- One alone may come up. -/
theorem anyL_one {i : Nat} {o : Oper} {fuel : Nat} {listed : Array Bool} {a : Act} {w : World} (ho : ops[i]? = some o) (hr : Region.ready md ops listed = [i])
    (h : ∀ K' : Act → World → Prop, Shut (∀ a w, (i ≠ l → S w) → ((i ≠ l → S w) → anyL P md ops Q S l fuel (listed.setIfInBounds i true) a w) → K' a w) → if Region.wanted o (yielded ops a.tmps) = true then Oper.wp P o a w K' Q else K' (a.put o.dst undef) w) :
    anyL P md ops Q S l (fuel + 1) listed a w := by
  refine ⟨fun h0 => (by rw [hr] at h0; cases h0), fun j hj => ?_⟩
  rw [hr] at hj
  obtain rfl : j = i := by simpa using hj
  exact wpOp_step ho (fun K' hK => h K' (fun a w hS hW => hK a w ⟨hS, hW hS⟩))

theorem anyL_done {listed : Array Bool} {a : Act} {w : World} (hr : Region.ready md ops listed = []) (h : Q .normal a w) :
    ∀ fuel, anyL P md ops Q S l fuel listed a w
  | 0 => ⟨hr, h⟩
  | _ + 1 => ⟨fun _ => h, by rw [hr]; simp⟩

theorem wp_region_L {id : Nat} {a : Act} {w : World} (S : World → Prop) (l : Nat) (hm : P.follows .mixedOrders = true) (hS : S w.drew)
    (h : S w.drew → anyL P .any ops Q S l ops.size (Array.replicate ops.size false) a w.drew) : (Code.region id ops true).wp P Q a w :=
  wp_region_any hm (any_of_L _ _ _ _ (h hS))
end
end Go.Proofs.Ybulkfea
