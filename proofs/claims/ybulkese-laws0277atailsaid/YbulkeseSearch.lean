/-
  THE WALKS OF idSpan.length, head's closure AND sort.Search (over that closure).
-/
import Derived.Test.YbulkeseJoinWalk
namespace Go.Proofs.Ybulkese
open Go.RowKit
attribute [local go_sem ↓] Go.wp_at_zero Go.wp_at_succ

set_option maxHeartbeats 400000 in
/-- idSpan.length. -/
theorem length_any (f t : Nat) (w : World) (hft : (f : Int) ≤ t) (ht : (t : Int) ≤ 1000000) :
    Calls Yba.prog 18 #[.agg #[.int .i64 f, .int .i64 t]] w fun e w' => e = .returned (.int .i64 ((t : Int) - f)) ∧ w' = w.alloc (.cells #[.int .i64 f, .int .i64 t] 52) := by
  go_enter Yba.func18, Yba.ntmps18
  go_wp2
  go_ret
  exact ⟨rfl, rfl⟩

set_option maxHeartbeats 400000 in
/-- head's closure. -/
theorem close_any (R N gs ga n cs ca x m A f t : Nat) (w : World)
    (r1 : w.cell? ⟨R, 1, none⟩ = some (.slice (some ⟨gs, 0, none⟩) n cs)) (r2 : w.cell? ⟨R, 2, none⟩ = some (.slice (some ⟨ga, 0, none⟩) n ca)) (hN : w.cell? ⟨N, 0, none⟩ = some (.int .i64 m))
    (hx : (x : Int) < n) (ca0 : w.cell? ⟨ga, x, none⟩ = some (.int .i64 A)) (cf : w.cell? ⟨gs, x * 2, none⟩ = some (.int .i64 f)) (ct : w.cell? ⟨gs, x * 2 + 1, none⟩ = some (.int .i64 t))
    (hft : (f : Int) ≤ t) (ht : (t : Int) ≤ 1000000) (hA : (A : Int) ≤ 1000000) :
    Calls Yba.prog 17 #[.int .i64 x, .pointer (some ⟨R, 0, none⟩), .pointer (some ⟨N, 0, none⟩)] w fun e w' => e = .returned (.bool (decide ((m : Int) ≤ (A : Int) + ((t : Int) - f)))) ∧ Below w.heap.size w w' := by
  have x0 : (0 : Int) ≤ x := by omega
  have hw : IntKind.i64.wrap ((A : Int) + ((t : Int) - f)) = (A : Int) + ((t : Int) - f) := by rw [IntKind.wrap_i64]; omega
  have l1 := World.block_lt_of_cell? w _ r1
  have l2 := World.block_lt_of_cell? w _ ca0
  have l3 := World.block_lt_of_cell? w _ cf
  have l4 := World.block_lt_of_cell? w _ hN
  dsimp only at l1 l2 l3 l4
  go_enter Yba.func17, Yba.ntmps17
  go_wp2
  go_region_held3 (fun w' => w'.cell? ⟨R, 1, none⟩ = some (.slice (some ⟨gs, 0, none⟩) n cs) ∧ w'.cell? ⟨R, 2, none⟩ = some (.slice (some ⟨ga, 0, none⟩) n ca) ∧ w'.cell? ⟨N, 0, none⟩ = some (.int .i64 m) ∧ w'.cell? ⟨ga, x, none⟩ = some (.int .i64 A) ∧ w'.cell? ⟨gs, x * 2, none⟩ = some (.int .i64 f) ∧ w'.cell? ⟨gs, x * 2 + 1, none⟩ = some (.int .i64 t))
    (simp [*, go_sem, World.cell?_alloc_past])
    (first | (go_at_call 18; refine (length_any f t _ hft ht).mono ?_; rintro e w' ⟨rfl, rfl⟩))
  go_wp2
  go_ret
  exact ⟨rfl, ((Below.refl _ _).alloc (Nat.le_refl _) _).drew⟩

/-- The spans and where they start, in memory. -/
structure Spans (w : World) (gs ga n : Nat) (F T A : Nat → Nat) : Prop where
  cf : ∀ x, x < n → w.cell? ⟨gs, x * 2, none⟩ = some (.int .i64 (F x : Nat))
  ct : ∀ x, x < n → w.cell? ⟨gs, x * 2 + 1, none⟩ = some (.int .i64 (T x : Nat))
  ca : ∀ x, x < n → w.cell? ⟨ga, x, none⟩ = some (.int .i64 (A x : Nat))
theorem Spans.same {w w' : World} {gs ga n : Nat} {F T A : Nat → Nat} (h : Spans w gs ga n F T A) (h1 : w'.heap[gs]? = w.heap[gs]?) (h2 : w'.heap[ga]? = w.heap[ga]?) : Spans w' gs ga n F T A :=
  ⟨fun x hx => (World.cell?_of_block (w := w) h1).trans (h.cf x hx), fun x hx => (World.cell?_of_block (w := w) h1).trans (h.ct x hx), fun x hx => (World.cell?_of_block (w := w) h2).trans (h.ca x hx)⟩

set_option maxHeartbeats 400000 in
/-- sort.Search over the ends of the spans. -/
theorem search_any (R N gs ga n cs ca m : Nat) (F T A : Nat → Nat) (w : World)
    (r1 : w.cell? ⟨R, 1, none⟩ = some (.slice (some ⟨gs, 0, none⟩) n cs)) (r2 : w.cell? ⟨R, 2, none⟩ = some (.slice (some ⟨ga, 0, none⟩) n ca)) (hN : w.cell? ⟨N, 0, none⟩ = some (.int .i64 m))
    (hS : Spans w gs ga n F T A) (hn : (n : Int) ≤ 1000000) (lS : gs < w.heap.size) (lA : ga < w.heap.size)
    (hb : ∀ x, x < n → F x ≤ T x ∧ T x ≤ 1000000 ∧ A x ≤ 1000000) (mono : ∀ x y, x ≤ y → y < n → A x + (T x - F x) ≤ A y + (T y - F y)) :
    Calls Yba.prog 16 #[.int .i64 n, .func (Fn.func 17) #[] #[.pointer (some ⟨R, 0, none⟩), .pointer (some ⟨N, 0, none⟩)]] w fun e w' =>
      ∃ j : Nat, e = .returned (.int .i64 j) ∧ j ≤ n ∧ (∀ x, x < j → A x + (T x - F x) < m) ∧ (j < n → m ≤ A j + (T j - F j)) ∧ Below w.heap.size w w' := by
  have lR := World.block_lt_of_cell? w _ r1
  have lN := World.block_lt_of_cell? w _ hN
  dsimp only at lR lN
  have H1 : Hid (w.cell? ⟨R, 1, none⟩ = some (.slice (some ⟨gs, 0, none⟩) n cs)) := r1
  have H2 : Hid (w.cell? ⟨R, 2, none⟩ = some (.slice (some ⟨ga, 0, none⟩) n ca)) := r2
  have H3 : Hid (w.cell? ⟨N, 0, none⟩ = some (.int .i64 m)) := hN
  have HS : Hid (Spans w gs ga n F T A) := hS
  have HBd : Hid (∀ x, x < n → F x ≤ T x ∧ T x ≤ 1000000 ∧ A x ≤ 1000000) := hb
  have HM : Hid (∀ x y, x ≤ y → y < n → A x + (T x - F x) ≤ A y + (T y - F y)) := mono
  have HL : Hid (R < w.heap.size ∧ N < w.heap.size ∧ gs < w.heap.size ∧ ga < w.heap.size) := ⟨lR, lN, lS, lA⟩
  clear r1 r2 hN hS hb mono lR lN lS lA
  go_enter Yba.func16, Yba.ntmps16
  go_wp2
  go_loopw [5, 6] (fun i j wr => ∃ p q : Nat, i = .int .i64 p ∧ j = .int .i64 q ∧ p ≤ q ∧ q ≤ n ∧ (∀ x, x < p → A x + (T x - F x) < m) ∧ (q < n → m ≤ A q + (T q - F q)) ∧ Below w.heap.size w wr) (fun i j _ => (intOf j).toNat - (intOf i).toNat)
  case atStart => exact ⟨0, n, rfl, rfl, Nat.zero_le _, Nat.le_refl _, fun x hx => by omega, fun h => by omega, Below.refl _ _⟩
  case round =>
    obtain ⟨p, q, rfl, rfl, hpq, hqn, hlo, hhi, hbel⟩ := hrel
    have Hlo : Hid (∀ x, x < p → A x + (T x - F x) < m) := hlo
    have Hhi : Hid (q < n → m ≤ A q + (T q - F q)) := hhi
    have HB : Hid (Below w.heap.size w wr) := hbel
    have Hpq : Hid (p ≤ q ∧ q ≤ n) := ⟨hpq, hqn⟩
    have h1 : (p : Int) ≤ q := by omega
    have h2 : (q : Int) ≤ 1000000 := by omega
    clear hlo hhi hbel hpq hqn
    by_cases hlt : (p : Int) < q
    · obtain ⟨h, hh⟩ : ∃ h : Nat, ((p : Int) + q) / 2 = h := ⟨(p + q) / 2, by omega⟩
      have h3 : (p : Int) ≤ h := by omega
      have h4 : (h : Int) < q := by omega
      have Hh : Hid (p ≤ h ∧ h < q) := ⟨by omega, by omega⟩
      have hx : h < n := by have := Hpq.out; omega
      obtain ⟨b1, b2, b3⟩ := HBd.out h hx
      have k1 := (HB.out.cell (p := ⟨R, 1, none⟩) HL.out.1).trans H1.out
      have k2 := (HB.out.cell (p := ⟨R, 2, none⟩) HL.out.1).trans H2.out
      have k3 := (HB.out.cell (p := ⟨N, 0, none⟩) HL.out.2.1).trans H3.out
      have kc := HS.out.same (HB.out.block _ HL.out.2.2.1) (HB.out.block _ HL.out.2.2.2)
      have c := close_any R N gs ga n cs ca h m (A h) (F h) (T h) wr k1 k2 k3 (by omega) (kc.ca h hx) (kc.cf h hx) (kc.ct h hx) (by omega) (by omega) (by omega)
      have C : Hid (Calls Yba.prog 17 #[.int .i64 h, .pointer (some ⟨R, 0, none⟩), .pointer (some ⟨N, 0, none⟩)] wr fun e w' => e = .returned (.bool (decide ((m : Int) ≤ (A h : Int) + ((T h : Int) - F h)))) ∧ Below wr.heap.size wr w') := c
      clear k1 k2 k3 kc c b1 b2 b3
      have Hx : Hid (h < n) := hx
      have Hb : Hid (F h ≤ T h) := (HBd.out h hx).1
      clear hx
      go_wp2_with fail
      refine C.out.mono ?_
      rintro e w2 ⟨rfl, hb2⟩
      have HB2 : Hid (Below w.heap.size w w2) := HB.out.trans (hb2.mono HB.out.size)
      clear hb2 C
      by_cases hd : m ≤ A h + (T h - F h)
      · have e : decide ((m : Int) ≤ (A h : Int) + ((T h : Int) - F h)) = true := by have := Hb.out; simp; omega
        rw [e]
        have HD : Hid (m ≤ A h + (T h - F h)) := hd
        clear hd e
        go_wp2
        go_roundw
        case rel => exact ⟨p, h, rfl, rfl, Hh.out.1, Nat.le_of_lt Hx.out, Hlo.out, fun _ => HD.out, HB2.out⟩
        case measure => simp [intOf]; have := Hh.out; omega
      · have e : decide ((m : Int) ≤ (A h : Int) + ((T h : Int) - F h)) = false := by have := Hb.out; simp; omega
        rw [e]
        have HD : Hid (A h + (T h - F h) < m) := Nat.lt_of_not_le hd
        clear hd e
        go_wp2
        go_roundw
        case rel => exact ⟨h + 1, q, by go_num, rfl, Hh.out.2, Hpq.out.2, fun x hx => Nat.lt_of_le_of_lt (HM.out x h (by omega) Hx.out) HD.out, Hhi.out, HB2.out⟩
        case measure => simp [intOf]; have := Hh.out; omega
    · have e : p = q := by have := Hpq.out; omega
      subst e
      go_wp2
      go_ret
      exact ⟨p, rfl, Hpq.out.2, Hlo.out, Hhi.out, HB.out⟩

#print axioms search_any
end Go.Proofs.Ybulkese
