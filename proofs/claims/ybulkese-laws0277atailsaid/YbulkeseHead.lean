/-
  THE WALK OF spannedRun.head.
-/
import Derived.Test.YbulkeseSearch
namespace Go.Proofs.Ybulkese
open Go.RowKit
attribute [local go_sem ↓] Go.wp_at_zero Go.wp_at_succ

/-- How the run lies over the text: no memory. -/
structure Shape (n L : Nat) (l fl : List Nat) (F T A : Nat → Nat) : Prop where
  pos : 0 < n
  small : n ≤ 256
  len : l.length = L
  lenS : L ≤ 1024
  bd : ∀ x, x < n → F x ≤ T x ∧ T x ≤ L
  at0 : A 0 = 0
  step : ∀ x, x + 1 < n → A (x + 1) = A x + (T x - F x)
  last : fl.length = A (n - 1) + (T (n - 1) - F (n - 1))
  seg : ∀ x, x < n → ∀ k, k ≤ T x - F x → (fl.drop (A x)).take k = (l.drop (F x)).take k

section
variable {n L : Nat} {l fl : List Nat} {F T A : Nat → Nat}
theorem Shape.atle (h : Shape n L l fl F T A) : ∀ x, x < n → A x ≤ x * 1024 := by
  intro x
  induction x with
  | zero => intro _; rw [h.at0]; omega
  | succ x ih =>
    intro hx
    have h1 := ih (by omega)
    have h2 := h.bd x (by omega)
    have h3 := h.lenS
    rw [h.step x hx]
    omega
theorem Shape.flle (h : Shape n L l fl F T A) : fl.length ≤ 262144 := by
  have h1 := h.atle (n - 1) (by have := h.pos; omega)
  have h2 := h.bd (n - 1) (by have := h.pos; omega)
  have h3 := h.lenS
  have h4 := h.small
  rw [h.last]
  omega
theorem Shape.bounds (h : Shape n L l fl F T A) : ∀ x, x < n → F x ≤ T x ∧ T x ≤ 1000000 ∧ A x ≤ 1000000 := by
  intro x hx
  have h1 := h.atle x hx
  have h2 := h.bd x hx
  have h3 := h.lenS
  have h4 := h.small
  exact ⟨h2.1, by omega, by omega⟩
theorem Shape.ends (h : Shape n L l fl F T A) : ∀ x y, x ≤ y → y < n → A x + (T x - F x) ≤ A y + (T y - F y) := by
  intro x y hxy
  induction y with
  | zero => intro _; have : x = 0 := by omega
            subst this; omega
  | succ y ih =>
    intro hy
    by_cases e : x = y + 1
    · subst e; omega
    · have h1 := ih (by omega) (by omega)
      rw [h.step y hy]
      omega
theorem Shape.endle (h : Shape n L l fl F T A) (x : Nat) (hx : x < n) : A x + (T x - F x) ≤ fl.length := by
  rw [h.last]
  exact h.ends x (n - 1) (by omega) (by have := h.pos; omega)
/-- What sort.Search finds: the span in which the m-th place lies. -/
theorem Shape.found (h : Shape n L l fl F T A) (m j : Nat) (hm : m ≤ fl.length) (hj : j ≤ n) (h1 : ∀ x, x < j → A x + (T x - F x) < m) (h2 : j < n → m ≤ A j + (T j - F j)) :
    j < n ∧ A j ≤ m ∧ m - A j ≤ T j - F j := by
  have hp := h.pos
  have hjn : j < n := by
    rcases Nat.lt_or_ge j n with hl | hge
    · exact hl
    · have := h1 (n - 1) (by omega)
      rw [h.last] at hm
      omega
  have h3 := h2 hjn
  have hA : A j ≤ m := by
    cases j with
    | zero => rw [h.at0]; omega
    | succ j =>
      have := h1 j (by omega)
      rw [h.step j hjn]
      omega
  exact ⟨hjn, hA, by omega⟩
theorem Shape.pfseg (h : Shape n L l fl F T A) (b x k : Nat) (hx : x < n) (hk : k ≤ T x - F x) : pf b (l.drop (F x)) k = pf b (fl.drop (A x)) k := by
  unfold pf; rw [h.seg x hx k hk]
end

/-- The run in memory. -/
structure Run (w : World) (TX B tp gs ga gp n L C : Nat) (l fl : List Nat) (F T A : Nat → Nat) (a b : Nat) : Prop where
  text : ∃ v1 v3 v4, w.heap[TX]? = some (.cells #[.pointer (some ⟨B, 0, none⟩), v1, .slice (some ⟨tp, 0, none⟩) (L + 1) C, v3, v4] 57 (0, 0))
  sp : Spans w gs ga n F T A
  row : w.rowIs tp 36 ((L + 1) * 2) (fpF (fun k => (pf a l k, pf b l k)))
  preA : ∀ x, x < n → w.cell? ⟨gp, x * 2, none⟩ = some (.int .u64 (pf a fl (A x) : Nat))
  preB : ∀ x, x < n → w.cell? ⟨gp, x * 2 + 1, none⟩ = some (.int .u64 (pf b fl (A x) : Nat))
theorem Run.same {w w' : World} {TX B tp gs ga gp n L C : Nat} {l fl : List Nat} {F T A : Nat → Nat} {a b : Nat} (h : Run w TX B tp gs ga gp n L C l fl F T A a b) (S : Nat → Prop) (hS : S TX ∧ S tp ∧ S gs ∧ S ga ∧ S gp)
    (he : ∀ k, S k → w'.heap[k]? = w.heap[k]?) : Run w' TX B tp gs ga gp n L C l fl F T A a b := by
  obtain ⟨v1, v3, v4, ht⟩ := h.text
  exact ⟨⟨v1, v3, v4, (he _ hS.1).trans ht⟩, h.sp.same (he _ hS.2.2.1) (he _ hS.2.2.2.1), h.row.of_block (he _ hS.2.1),
    fun x hx => (World.cell?_of_block (w := w) (he gp hS.2.2.2.2)).trans (h.preA x hx), fun x hx => (World.cell?_of_block (w := w) (he gp hS.2.2.2.2)).trans (h.preB x hx)⟩

/-- Blocks other than the fingerprinter's. -/
structure Apart (w : World) (B g TX tp gs ga gp : Nat) : Prop where
  lt : TX < w.heap.size ∧ tp < w.heap.size ∧ gs < w.heap.size ∧ ga < w.heap.size ∧ gp < w.heap.size
  nB : TX ≠ B ∧ tp ≠ B ∧ gs ≠ B ∧ ga ≠ B ∧ gp ≠ B
  ng : TX ≠ g ∧ tp ≠ g ∧ gs ≠ g ∧ ga ≠ g ∧ gp ≠ g

section
variable {w1 w3 w4 : World} {B g g3 RR TX gp i j : Nat} {v0 v1 v2 v3 v4 : Value}
theorem keep_five (hbut : But B g w1.drew.drew w3) (H : (RR < w1.heap.size ∧ RR ≠ B ∧ RR ≠ g) ∧ (TX < w1.heap.size ∧ TX ≠ B ∧ TX ≠ g) ∧ (gp < w1.heap.size ∧ gp ≠ B ∧ gp ≠ g))
    (S : w1.cell? ⟨RR, 0, none⟩ = some v0 ∧ w1.cell? ⟨RR, 3, none⟩ = some v1 ∧ w1.cell? ⟨TX, 2, none⟩ = some v2 ∧ w1.cell? ⟨gp, i, none⟩ = some v3 ∧ w1.cell? ⟨gp, j, none⟩ = some v4) :
    w3.cell? ⟨RR, 0, none⟩ = some v0 ∧ w3.cell? ⟨RR, 3, none⟩ = some v1 ∧ w3.cell? ⟨TX, 2, none⟩ = some v2 ∧ w3.cell? ⟨gp, i, none⟩ = some v3 ∧ w3.cell? ⟨gp, j, none⟩ = some v4 := by
  have k : ∀ b o, b < w1.heap.size → b ≠ B → b ≠ g → w3.cell? ⟨b, o, none⟩ = w1.cell? ⟨b, o, none⟩ := fun b o h1 h2 h3 => hbut.cell (p := ⟨b, o, none⟩) h1 h2 h3
  obtain ⟨⟨a1, a2, a3⟩, ⟨b1, b2, b3⟩, ⟨c1, c2, c3⟩⟩ := H
  obtain ⟨s0, s1, s2, s3, s4⟩ := S
  exact ⟨by rw [k _ _ a1 a2 a3]; exact s0, by rw [k _ _ a1 a2 a3]; exact s1, by rw [k _ _ b1 b2 b3]; exact s2, by rw [k _ _ c1 c2 c3]; exact s3, by rw [k _ _ c1 c2 c3]; exact s4⟩
theorem but_two (hbut : But B g w1.drew.drew w3) (hbut4 : But B g3 w3 w4) (hg3 : g3 = g ∨ w1.drew.drew.heap.size ≤ g3) : But B g w1.drew.drew w4 := hbut.trans hbut4 hg3
theorem keep_five' (hbut : But B g w1.drew.drew w3) (hbut4 : But B g3 w3 w4) (hg3 : g3 = g ∨ w1.drew.drew.heap.size ≤ g3) (H : (RR < w1.heap.size ∧ RR ≠ B ∧ RR ≠ g) ∧ (TX < w1.heap.size ∧ TX ≠ B ∧ TX ≠ g) ∧ (gp < w1.heap.size ∧ gp ≠ B ∧ gp ≠ g))
    (S : w1.cell? ⟨RR, 0, none⟩ = some v0 ∧ w1.cell? ⟨RR, 3, none⟩ = some v1 ∧ w1.cell? ⟨TX, 2, none⟩ = some v2 ∧ w1.cell? ⟨gp, i, none⟩ = some v3 ∧ w1.cell? ⟨gp, j, none⟩ = some v4) :
    w4.cell? ⟨RR, 0, none⟩ = some v0 ∧ w4.cell? ⟨RR, 3, none⟩ = some v1 ∧ w4.cell? ⟨TX, 2, none⟩ = some v2 ∧ w4.cell? ⟨gp, i, none⟩ = some v3 ∧ w4.cell? ⟨gp, j, none⟩ = some v4 := keep_five (but_two hbut hbut4 hg3) H S
theorem res_block {t : TypeId} {x y : Value} (hbut : But B g w1.drew.drew w3) (hbut4 : But B g3 w3 w4) (hg3 : g3 = g ∨ w1.drew.drew.heap.size ≤ g3) (H : RR < w1.heap.size ∧ RR ≠ B ∧ RR ≠ g) (h : w1.heap[RR]? = some (.cells #[x, y] t (0, 0))) : w4.heap[RR]? = some (.cells #[x, y] t (0, 0)) := by
  rw [(but_two hbut hbut4 hg3).block RR H.1 H.2.1 H.2.2]; exact h
theorem res_kept {t : TypeId} {x y : Value} (hbut : But B g w1.drew.drew w3) (hbut4 : But B g3 w3 w4) (hg3 : g3 = g ∨ w1.drew.drew.heap.size ≤ g3) (H : RR < w1.heap.size ∧ RR ≠ B ∧ RR ≠ g) (h : w1.heap[RR]? = some (.cells #[x, y] t (0, 0))) :
    w4.cell? ⟨RR, 0, none⟩ = some x ∧ w4.cell? ⟨RR, 1, none⟩ = some y ∧ w4.frozen? ⟨RR, 0, none⟩ = false ∧ w4.frozen? ⟨RR, 1, none⟩ = false := by
  have h4 := res_block hbut hbut4 hg3 H h
  exact ⟨cell_of_block h4 0, cell_of_block h4 1, frozen_of_block h4, frozen_of_block h4⟩
end

set_option maxHeartbeats 1000000 in
/-- head. -/
theorem head_any (TX B g cap nn tp gs ga gp n L C cs ca cp m : Nat) (l fl : List Nat) (F T A : Nat → Nat) (a b : Nat) (tt : Int) (w : World) (hF : Fpr w B g cap a b nn) (hnn : nn < 1000000) (la : a < P61) (lb : b < P61)
    (hR : Run w TX B tp gs ga gp n L C l fl F T A a b) (hS : Shape n L l fl F T A) (hAp : Apart w B g TX tp gs ga gp) (hm : m ≤ fl.length) :
    Calls Yba.prog 8 #[.agg #[.pointer (some ⟨TX, 0, none⟩), .slice (some ⟨gs, 0, none⟩) n cs, .slice (some ⟨ga, 0, none⟩) n ca, .slice (some ⟨gp, 0, none⟩) n cp, .int .i64 tt], .int .i64 m] w fun e w' =>
      e = .returned (.agg #[.int .u64 (pf a fl m : Nat), .int .u64 (pf b fl m : Nat)]) ∧
      ∃ g' cap' n', Fpr w' B g' cap' a b n' ∧ n' < 1000000 ∧ (g' = g ∨ w.heap.size ≤ g') ∧ But B g w w' := by
  obtain ⟨⟨l1, l2, l3, l4, l5⟩, ⟨b1, b2, b3, b4, b5⟩, ⟨g1, g2, g3, g4, g5⟩⟩ := hAp
  have hfl := hS.flle
  have lB := hF.ltB
  have lg := hF.ltg
  go_enter Yba.func8, Yba.ntmps8
  go_wp2_with fail
  obtain ⟨W0, hW0⟩ : ∃ W0, W0 = ((w.alloc (.cells #[.pointer (some ⟨TX, 0, none⟩), .slice (some ⟨gs, 0, none⟩) n cs, .slice (some ⟨ga, 0, none⟩) n ca, .slice (some ⟨gp, 0, none⟩) n cp, .int .i64 tt] 31)).alloc (.cells #[.int .i64 m] 3)).alloc (.cells #[.int .u64 0, .int .u64 0] 36) := ⟨_, rfl⟩
  rw [← hW0]
  obtain ⟨f1, f2, f3, f4⟩ := three_new w (.cells #[.pointer (some ⟨TX, 0, none⟩), .slice (some ⟨gs, 0, none⟩) n cs, .slice (some ⟨ga, 0, none⟩) n ca, .slice (some ⟨gp, 0, none⟩) n cp, .int .i64 tt] 31) (.cells #[.int .i64 m] 3) (.cells #[.int .u64 0, .int .u64 0] 36)
  have f1' : W0.heap[w.heap.size]? = some (.cells #[.pointer (some ⟨TX, 0, none⟩), .slice (some ⟨gs, 0, none⟩) n cs, .slice (some ⟨ga, 0, none⟩) n ca, .slice (some ⟨gp, 0, none⟩) n cp, .int .i64 tt] 31 (0, 0)) := by rw [hW0]; exact f1
  have f2' : W0.heap[w.heap.size + 1]? = some (.cells #[.int .i64 m] 3 (0, 0)) := by rw [hW0]; exact f2
  have f3' : W0.heap[w.heap.size + 1 + 1]? = some (.cells #[.int .u64 0, .int .u64 0] 36 (0, 0)) := by rw [hW0]; exact f3
  have f4' : Below w.heap.size w W0 := by rw [hW0]; exact ⟨f4.os, f4.tape, f4.output, f4.size, f4.block⟩
  have hs0 : W0.heap.size = w.heap.size + 1 + 1 + 1 := by rw [hW0]; simp
  clear f1 f2 f3 f4 hW0
  have hR0 : Run W0 TX B tp gs ga gp n L C l fl F T A a b := hR.same (fun k => k < w.heap.size) ⟨l1, l2, l3, l4, l5⟩ (fun k hk => f4'.block k hk)
  refine (search_any w.heap.size (w.heap.size + 1) gs ga n cs ca m F T A W0 (cell_of_block f1' 1) (cell_of_block f1' 2) (cell_of_block f2' 0) hR0.sp (by have := hS.small; omega) (by omega) (by omega) hS.bounds hS.ends).mono ?_
  rintro e w1 ⟨j, rfl, hjn, hlo, hhi, hb1⟩
  obtain ⟨hj, hA, hk⟩ := hS.found m j hm hjn hlo hhi
  clear hjn hlo hhi
  obtain ⟨K, hK⟩ : ∃ K, K = m - A j := ⟨_, rfl⟩
  rw [← hK] at hk
  have hR1 : Run w1 TX B tp gs ga gp n L C l fl F T A a b := hR0.same (fun k => k < w.heap.size) ⟨l1, l2, l3, l4, l5⟩ (fun k hk => hb1.block k (by omega))
  have hsz := hb1.size
  have h1 : w1.heap[w.heap.size]? = some (.cells #[.pointer (some ⟨TX, 0, none⟩), .slice (some ⟨gs, 0, none⟩) n cs, .slice (some ⟨ga, 0, none⟩) n ca, .slice (some ⟨gp, 0, none⟩) n cp, .int .i64 tt] 31 (0, 0)) := by rw [hb1.block _ (by omega)]; exact f1'
  have h2 : w1.heap[w.heap.size + 1]? = some (.cells #[.int .i64 m] 3 (0, 0)) := by rw [hb1.block _ (by omega)]; exact f2'
  have h3 : w1.heap[w.heap.size + 1 + 1]? = some (.cells #[.int .u64 0, .int .u64 0] 36 (0, 0)) := by rw [hb1.block _ (by omega)]; exact f3'
  have hF1 : Fpr w1 B g cap a b nn := (hF.below' f4').below' hb1
  have hb01 : Below w.heap.size w w1 := f4'.trans (hb1.mono (by omega))
  obtain ⟨v1, v3, v4, htx⟩ := hR1.text
  have HF1 : Hid (Fpr w1 B g cap a b nn) := hF1
  have HB01 : Hid (Below w.heap.size w w1) := hb01
  have HRes : Hid (w1.heap[w.heap.size + 1 + 1]? = some (.cells #[.int .u64 0, .int .u64 0] 36 (0, 0))) := h3
  have HRow : Hid (w1.rowIs tp 36 ((L + 1) * 2) (fpF (fun k => (pf a l k, pf b l k)))) := hR1.row
  have r0 : w1.cell? ⟨w.heap.size, 0, none⟩ = some (.pointer (some ⟨TX, 0, none⟩)) := cell_of_block h1 0
  have r1 : w1.cell? ⟨w.heap.size, 1, none⟩ = some (.slice (some ⟨gs, 0, none⟩) n cs) := cell_of_block h1 1
  have r2 : w1.cell? ⟨w.heap.size, 2, none⟩ = some (.slice (some ⟨ga, 0, none⟩) n ca) := cell_of_block h1 2
  have r3 : w1.cell? ⟨w.heap.size, 3, none⟩ = some (.slice (some ⟨gp, 0, none⟩) n cp) := cell_of_block h1 3
  have n0 : w1.cell? ⟨w.heap.size + 1, 0, none⟩ = some (.int .i64 m) := cell_of_block h2 0
  have t0 : w1.cell? ⟨TX, 0, none⟩ = some (.pointer (some ⟨B, 0, none⟩)) := cell_of_block htx 0
  have t2 : w1.cell? ⟨TX, 2, none⟩ = some (.slice (some ⟨tp, 0, none⟩) (L + 1) C) := cell_of_block htx 2
  have ca0 := hR1.sp.ca j hj
  have cf0 := hR1.sp.cf j hj
  have p0 := hR1.preA j hj
  have p1 := hR1.preB j hj
  have q0 : w1.cell? ⟨w.heap.size + 1 + 1, 0, none⟩ = some (.int .u64 0) := cell_of_block h3 0
  have q1 : w1.cell? ⟨w.heap.size + 1 + 1, 1, none⟩ = some (.int .u64 0) := cell_of_block h3 1
  have q2 : w1.frozen? ⟨w.heap.size + 1 + 1, 0, none⟩ = false := frozen_of_block h3
  have q3 : w1.frozen? ⟨w.heap.size + 1 + 1, 1, none⟩ = false := frozen_of_block h3
  have hbd := hS.bounds j hj
  have hbd2 := hS.bd j hj
  have hls := hS.lenS
  obtain ⟨Fj, hFj⟩ : ∃ Fj, Fj = F j := ⟨_, rfl⟩
  obtain ⟨Aj, hAj⟩ : ∃ Aj, Aj = A j := ⟨_, rfl⟩
  have e1 : pf a (l.drop Fj) K = pf a (fl.drop Aj) K := by rw [hFj, hAj]; exact hS.pfseg a j K hj hk
  have e2 : pf b (l.drop Fj) K = pf b (fl.drop Aj) K := by rw [hFj, hAj]; exact hS.pfseg b j K hj hk
  rw [← hFj] at cf0 hk hbd hbd2
  rw [← hAj] at ca0 p0 p1 hK hA hbd
  have HE : Hid (pf a (l.drop Fj) K = pf a (fl.drop Aj) K ∧ pf b (l.drop Fj) K = pf b (fl.drop Aj) K) := ⟨e1, e2⟩
  have HFK : Hid (Fj + K ≤ L ∧ l.length = L ∧ L ≤ 1024 ∧ m = Aj + K ∧ Aj + K ≤ fl.length) := ⟨by omega, hS.len, hls, by omega, by omega⟩
  have hwk : IntKind.i64.wrap ((m : Int) - Aj) = K := by rw [IntKind.wrap_i64]; omega
  have hwf : IntKind.i64.wrap ((Fj : Int) + K) = Fj + K := by rw [IntKind.wrap_i64]; omega
  have hj0 : (0 : Int) ≤ j := by omega
  have hj1 : (j : Int) < n := by omega
  have HL : Hid (w.heap.size + 1 + 1 < w1.heap.size ∧ B < w.heap.size ∧ g < w.heap.size) := ⟨by omega, lB, lg⟩
  clear hF1 hb01 h1 h2 h3 hR1 hR0 hsz f1' f2' f3' f4' hs0 hbd hbd2 hls e1 e2 hFj hAj hK hA hk hfl hR hF htx hb1 hm hj hS
  generalize hRS : w.heap.size + 1 + 1 = RS at *
  generalize hNB : w.heap.size + 1 = NB at *
  have d1 : RS ≠ w.heap.size := by omega
  have d2 : RS ≠ TX := by omega
  have d3 : RS ≠ gp := by omega
  have HNe : Hid (w.heap.size < w1.heap.size ∧ w.heap.size ≠ B ∧ w.heap.size ≠ g ∧ B ≠ RS ∧ w.heap.size ≤ RS) := by have := HL.out; exact ⟨by omega, by omega, by omega, by omega, by omega⟩
  clear hRS hNB
  go_wp2
  go_region_held3 (fun w' => w'.cell? ⟨NB, 0, none⟩ = some (.int .i64 m) ∧ w'.cell? ⟨w.heap.size, 2, none⟩ = some (.slice (some ⟨ga, 0, none⟩) n ca) ∧ w'.cell? ⟨ga, j, none⟩ = some (.int .i64 Aj) ∧ w'.cell? ⟨w.heap.size, 1, none⟩ = some (.slice (some ⟨gs, 0, none⟩) n cs) ∧ w'.cell? ⟨gs, j * 2, none⟩ = some (.int .i64 Fj)) (go_keep) (fail)
  go_wp2
  have HAp : Hid ((w.heap.size < w1.heap.size ∧ w.heap.size ≠ B ∧ w.heap.size ≠ g) ∧ (TX < w1.heap.size ∧ TX ≠ B ∧ TX ≠ g) ∧ (gp < w1.heap.size ∧ gp ≠ B ∧ gp ≠ g)) := by have := HNe.out; exact ⟨⟨by omega, by omega, by omega⟩, ⟨by omega, b1, g1⟩, ⟨by omega, b5, g5⟩⟩
  have HRS : Hid (RS < w1.heap.size ∧ RS ≠ B ∧ RS ≠ g) := by have := HNe.out; have := HL.out; exact ⟨by omega, by omega, by omega⟩
  have HS5 : Hid (w1.cell? ⟨w.heap.size, 0, none⟩ = some (.pointer (some ⟨TX, 0, none⟩)) ∧ w1.cell? ⟨w.heap.size, 3, none⟩ = some (.slice (some ⟨gp, 0, none⟩) n cp) ∧ w1.cell? ⟨TX, 2, none⟩ = some (.slice (some ⟨tp, 0, none⟩) (L + 1) C) ∧ w1.cell? ⟨gp, j * 2, none⟩ = some (.int .u64 (pf a fl Aj : Nat)) ∧ w1.cell? ⟨gp, j * 2 + 1, none⟩ = some (.int .u64 (pf b fl Aj : Nat))) := ⟨r0, r3, t2, p0, p1⟩
  clear r1 r2 n0 t0 ca0 cf0 hwk q0 q1 q2 q3
  go_region_held3 (fun w' => w'.cell? ⟨w.heap.size, 0, none⟩ = some (.pointer (some ⟨TX, 0, none⟩)) ∧ w'.cell? ⟨w.heap.size, 3, none⟩ = some (.slice (some ⟨gp, 0, none⟩) n cp) ∧ w'.cell? ⟨TX, 2, none⟩ = some (.slice (some ⟨tp, 0, none⟩) (L + 1) C) ∧ w'.cell? ⟨gp, j * 2, none⟩ = some (.int .u64 (pf a fl Aj : Nat)) ∧ w'.cell? ⟨gp, j * 2 + 1, none⟩ = some (.int .u64 (pf b fl Aj : Nat)))
    (first | exact HS5.out | exact keep_five hbut3 HAp.out HS5.out | exact keep_five' hbut3 hbut4 hg3 HAp.out HS5.out | (simp [*, World.cell?_setCell_far]; done))
    (first
      | (go_at_call 14; refine (between_pf B g cap a b nn tp Fj K L l _ _ rfl rfl _ (HF1.out.below' ((Below.refl _ _).drew.drew)) la lb hnn (by have := HFK.out; omega) HFK.out.2.1 HFK.out.1 b2 g2 C (by exact HRow.out)).mono ?_; rintro e w3 ⟨rfl, g3, cap3, n3, hF3, hn3, hg3, hbut3⟩; rw [HE.out.1, HE.out.2])
      | (go_at_call 15; refine (join_pf B g3 cap3 a b n3 Aj K m fl _ hF3 la lb hn3 (by have := HFK.out; omega) HFK.out.2.2.2.1 HFK.out.2.2.2.2).mono ?_; rintro e w4 ⟨rfl, g4', cap4, n4, hF4, hn4, hg4, hbut4⟩; obtain ⟨z0, z1, z2, z3⟩ := res_kept hbut3 hbut4 hg3 HRS.out HRes.out))
  go_wp2
  have hb4 : But B g w1.drew.drew w4 := but_two hbut3 hbut4 hg3
  have hres4 := res_block hbut3 hbut4 hg3 HRS.out HRes.out
  obtain ⟨t0, t1⟩ := pair_stored hres4 (.int .u64 (pf a fl m : Nat)) (.int .u64 (pf b fl m : Nat))
  have hs3 : w1.heap.size ≤ w3.heap.size := hbut3.size
  have hg3' : g3 = g ∨ w1.heap.size ≤ g3 := hg3
  have hrs := HRS.out
  have hne := HNe.out
  have hl := HL.out
  have ngr : g4' ≠ RS := by omega
  refine bodyPost_ret (v := .agg #[.int .u64 (pf a fl m : Nat), .int .u64 (pf b fl m : Nat)]) (by simp [results, Yba.results8, go_sem, t0, t1]) rfl ⟨rfl, g4', cap4, n4, hF4.same ?_ ?_, hn4, by omega, ?_⟩
  · rw [heap_setCell_other _ _ _ _ (by exact hne.2.2.2.1), heap_setCell_other _ _ _ _ (by exact hne.2.2.2.1)]
  · rw [heap_setCell_other _ _ _ _ (by exact ngr), heap_setCell_other _ _ _ _ (by exact ngr)]
  · have h0 : But B g w w4 := (But.of_below (HB01.out.drew.drew)).trans hb4 (.inl rfl)
    exact (h0.setCell (.inr (.inr hne.2.2.2.2)) _).setCell (.inr (.inr hne.2.2.2.2)) _

#print axioms head_any
end Go.Proofs.Ybulkese
