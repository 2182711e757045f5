/-
  AS YbulkeseHeldLast, BUT S IS NOT ASKED BEHIND ALL OPERATIONS FROM A NUMBER ON, AND THESE NEED NOT WAIT FOR THE LOADS DIRECTLY: they wait for them through others. Nothing here is trusted.
-/
import Derived.Test.YbulkeseHeldLast
namespace Go.Proofs.Ybulkese
open Go

section
variable {P : Program} {ops : Array Oper} {Q : Exit → Act → World → Prop} {md : Region.Mode} {S : World → Prop} {l : Nat}

/-- Number k waits for number i, through at most f others. -/
def reach (md : Region.Mode) (ops : Array Oper) : Nat → Nat → Nat → Bool
  | 0, _, _ => false
  | f + 1, k, i =>
    match ops[k]? with
    | some o => o.after.any fun e => Region.binds md e && (e.on == i || reach md ops f e.on i)
    | none => false

/-- Whatever has come up, all that it waits for has come up. -/
def Closed (md : Region.Mode) (ops : Array Oper) (listed : Array Bool) : Prop :=
  ∀ (k : Nat) (o : Oper), ops[k]? = some o → listed.getD k false = true → ∀ e ∈ o.after, Region.binds md e = true → listed.getD e.on false = true
def closedB (md : Region.Mode) (ops : Array Oper) (listed : Array Bool) : Bool :=
  (List.range ops.size).all fun k => !(listed.getD k false) || match ops[k]? with
    | some o => o.after.all fun e => !(Region.binds md e) || listed.getD e.on false
    | none => true
theorem closed_of {listed : Array Bool} (h : closedB md ops listed = true) : Closed md ops listed := by
  intro k o ho hk e he hb
  have hlt : k < ops.size := (Array.getElem?_eq_some_iff.1 ho).1
  have h1 := List.all_eq_true.1 h k (List.mem_range.2 hlt)
  rw [hk, ho] at h1
  have h2 : (o.after.all fun e => !(Region.binds md e) || listed.getD e.on false) = true := by simpa using h1
  rw [Array.all_eq_true] at h2
  obtain ⟨i, hi, rfl⟩ := Array.mem_iff_getElem.1 he
  have h3 := h2 i hi
  rw [hb] at h3
  simpa using h3

theorem reach_spec {listed : Array Bool} (hc : Closed md ops listed) {i : Nat} : ∀ (f k : Nat), reach md ops f k i = true →
    (∀ o, ops[k]? = some o → ∀ e ∈ o.after, Region.binds md e = true → listed.getD e.on false = true) → listed.getD i false = true := by
  intro f
  induction f with
  | zero => intro k h _; cases h
  | succ f ih =>
    intro k h ha
    unfold reach at h
    cases ho : ops[k]? with
    | none => rw [ho] at h; cases h
    | some o =>
      rw [ho] at h
      have h' : (o.after.any fun e => Region.binds md e && (e.on == i || reach md ops f e.on i)) = true := h
      rw [Array.any_eq_true] at h'
      obtain ⟨x, hx, h1⟩ := h'
      rw [Bool.and_eq_true, Bool.or_eq_true] at h1
      have hl := ha o ho _ (Array.getElem_mem hx) h1.1
      rcases h1.2 with h2 | h2
      · rw [show o.after[x].on = i by simpa using h2] at hl; exact hl
      · exact ih _ h2 (fun o' ho' e he hb => hc _ o' ho' hl e he hb)

theorem closed_set {listed : Array Bool} (hc : Closed md ops listed) {j : Nat} (hj : j ∈ Region.ready md ops listed) : Closed md ops (listed.setIfInBounds j true) := by
  obtain ⟨hjun, oj, hoj, hall⟩ := mem_ready.1 hj
  intro k o ho hk e he hb
  have up : ∀ x, listed.getD x false = true → (listed.setIfInBounds j true).getD x false = true := fun x hx => by
    by_cases hjx : j = x
    · subst hjx
      have hlt : j < listed.size := by
        rcases Nat.lt_or_ge j listed.size with h | h
        · exact h
        · simp [Array.getElem?_eq_none h] at hx
      simp [hlt]
    · rw [getD_set_ne false hjx]; exact hx
  by_cases hjk : j = k
  · subst hjk
    rw [hoj] at ho
    obtain rfl : oj = o := by simpa using ho
    exact up _ (hall e he hb)
  · rw [getD_set_ne false hjk] at hk
    exact up _ (hc k o ho hk e he hb)

/-- Whatever order is picked from here on, and S holds behind every operation whose number is below l. -/
def anyG (P : Program) (md : Region.Mode) (ops : Array Oper) (Q : Exit → Act → World → Prop) (S : World → Prop) (l : Nat) : Nat → Array Bool → Act → World → Prop
  | 0, listed, a, w => Region.ready md ops listed = [] ∧ Q .normal a w
  | fuel + 1, listed, a, w =>
    (Region.ready md ops listed = [] → Q .normal a w) ∧
    ∀ i ∈ Region.ready md ops listed, wpOp P ops Q i (fun a' w' => (i < l → S w') ∧ anyG P md ops Q S l fuel (listed.setIfInBounds i true) a' w') a w

theorem any_of_G : ∀ (fuel : Nat) (listed : Array Bool) (a : Act) (w : World), anyG P md ops Q S l fuel listed a w → wpAny P md ops Q fuel listed a w
  | 0, _, _, _, h => h
  | fuel + 1, _, _, _, h => ⟨h.1, fun i hi => wpOp_mono (fun a' w' h' => any_of_G fuel _ a' w' h'.2) (h.2 i hi)⟩

/-- Every number from l on waits for number i. -/
def later (md : Region.Mode) (ops : Array Oper) (f l i : Nat) : Bool := (List.range ops.size).all fun j => decide (j < l) || reach md ops f j i
theorem later_spec {f i j : Nat} {oj : Oper} (h : later md ops f l i = true) (hj : ops[j]? = some oj) (hl : ¬ j < l) : reach md ops f j i = true := by
  have hlt : j < ops.size := (Array.getElem?_eq_some_iff.1 hj).1
  have := List.all_eq_true.1 h j (List.mem_range.2 hlt)
  rw [Bool.or_eq_true] at this
  rcases this with h1 | h1
  · exact absurd (by simpa using h1) hl
  · exact h1

theorem anyG_first {i f : Nat} {oi : Oper} {v : Value} (hi : ops[i]? = some oi) (hl : later md ops f l i = true) (hsel : ∀ (j : Nat) (o : Oper) cs b, ops[j]? = some o → o.op ≠ .select cs b)
    (hQ : ∀ c a w, Q (.panic c) (a.put oi.dst v) w → Q (.panic c) a w) :
    ∀ (fuel : Nat) (listed : Array Bool) (a : Act) (w : World), Closed md ops listed →
      (∀ j oj, ops[j]? = some oj → j ≠ i → listed.getD j true = false → (∀ e ∈ oj.after, Region.binds md e = true → e.on ≠ i) → oi.apart ops oj = true) →
      i ∈ Region.ready md ops listed → YieldsIf P ops S oi v a → S w →
      anyG P md ops Q S l fuel (listed.setIfInBounds i true) (a.put oi.dst v) w → anyG P md ops Q S l (fuel + 1) listed a w := by
  intro fuel
  induction fuel with
  | zero =>
    intro listed a w _ _ hr hy hS H
    refine ⟨fun h => (by rw [h] at hr; cases hr), fun j hj => ?_⟩
    by_cases hji : j = i
    · subst hji; exact hy.wpOp hi hS ⟨fun _ => hS, H⟩
    · have := ready_mono hj hji
      rw [H.1] at this
      cases this
  | succ fuel ih =>
    intro listed a w hcl hfree hr hy hS H
    refine ⟨fun h => (by rw [h] at hr; cases hr), fun j hj => ?_⟩
    by_cases hji : j = i
    · subst hji; exact hy.wpOp hi hS ⟨fun _ => hS, H⟩
    · have h1 := H.2 j (ready_mono hj hji)
      obtain ⟨hjun, oj, hoj, hall⟩ := mem_ready.1 hj
      have hin : listed.getD i true = false := (mem_ready.1 hr).1
      have hnot : ∀ e ∈ oj.after, Region.binds md e = true → e.on ≠ i := fun e he hb heq => by
        have h1 := hall e he hb
        rw [heq] at h1
        rcases Nat.lt_or_ge i listed.size with h' | h'
        · simp [h'] at hin h1; rw [hin] at h1; cases h1
        · simp [Array.getElem?_eq_none h'] at h1
      have h2 := wpOp_putIf hoj (hfree j oj hoj hji hjun hnot) (fun cs b => hsel i oi cs b hi) (fun cs b => hsel j oj cs b hoj) hQ hy h1
      have hfree' : ∀ k ok, ops[k]? = some ok → k ≠ i → (listed.setIfInBounds j true).getD k true = false →
          (∀ e ∈ ok.after, Region.binds md e = true → e.on ≠ i) → oi.apart ops ok = true := fun k ok hk hki hun hno => by
        refine hfree k ok hk hki ?_ hno
        by_cases hjk : j = k
        · subst hjk; exact hjun
        · rw [getD_set_ne true hjk] at hun; exact hun
      have hjl : j < l := Decidable.byContradiction fun h => by
        have h3 := reach_spec hcl f j (later_spec hl hoj h) (fun o ho e he hb => by
          rw [hoj] at ho
          obtain rfl : oj = o := by simpa using ho
          exact hall e he hb)
        rcases Nat.lt_or_ge i listed.size with h' | h'
        · simp [h'] at hin h3; rw [hin] at h3; cases h3
        · simp [Array.getElem?_eq_none h'] at h3
      refine wpOp_mono (fun a' w' h3 => ⟨fun _ => h3.2.1 hjl, ih (listed.setIfInBounds j true) a' w' (closed_set hcl hj) hfree' (ready_mono hr (Ne.symm hji)) h3.1 (h3.2.1 hjl) ?_⟩) h2
      rw [Array.setIfInBounds_comm _ _ hji]
      exact h3.2.2

theorem anyG_take {i : Nat} (f : Nat) {oi : Oper} {v : Value} {fuel : Nat} {listed : Array Bool} {a : Act} {w : World} (hi : ops[i]? = some oi) (hl : later md ops f l i = true) (hc : closedB md ops listed = true)
    (hs : Region.noSelect ops = true) (hf : Region.free md ops listed i = true) (hr : (Region.ready md ops listed).contains i = true)
    (hQ : ∀ c a w, Q (.panic c) (a.put oi.dst v) w → Q (.panic c) a w) (hy : YieldsIf P ops S oi v a) (hS : S w)
    (h : anyG P md ops Q S l fuel (listed.setIfInBounds i true) (a.put oi.dst v) w) : anyG P md ops Q S l (fuel + 1) listed a w :=
  anyG_first hi hl (Region.noSelect_spec hs) hQ fuel listed a w (closed_of hc) (Region.free_spec hi hf) (by simpa using hr) hy hS h

/-- One alone may come up. -/
theorem anyG_one {i : Nat} {o : Oper} {fuel : Nat} {listed : Array Bool} {a : Act} {w : World} (ho : ops[i]? = some o) (hr : Region.ready md ops listed = [i])
    (h : ∀ K' : Act → World → Prop, Shut (∀ a w, (i < l → S w) → ((i < l → S w) → anyG P md ops Q S l fuel (listed.setIfInBounds i true) a w) → K' a w) → if Region.wanted o (yielded ops a.tmps) = true then Oper.wp P o a w K' Q else K' (a.put o.dst undef) w) :
    anyG P md ops Q S l (fuel + 1) listed a w := by
  refine ⟨fun h0 => (by rw [hr] at h0; cases h0), fun j hj => ?_⟩
  rw [hr] at hj
  obtain rfl : j = i := by simpa using hj
  exact wpOp_step ho (fun K' hK => h K' (fun a w hS hW => hK a w ⟨hS, hW hS⟩))

theorem anyG_done {listed : Array Bool} {a : Act} {w : World} (hr : Region.ready md ops listed = []) (h : Q .normal a w) :
    ∀ fuel, anyG P md ops Q S l fuel listed a w
  | 0 => ⟨hr, h⟩
  | _ + 1 => ⟨fun _ => h, by rw [hr]; simp⟩

theorem wp_region_G {id : Nat} {a : Act} {w : World} (S : World → Prop) (l : Nat) (hm : P.follows .mixedOrders = true) (hS : S w.drew)
    (h : S w.drew → anyG P .any ops Q S l ops.size (Array.replicate ops.size false) a w.drew) : (Code.region id ops true).wp P Q a w :=
  wp_region_any hm (any_of_G _ _ _ _ (h hS))
end
end Go.Proofs.Ybulkese
