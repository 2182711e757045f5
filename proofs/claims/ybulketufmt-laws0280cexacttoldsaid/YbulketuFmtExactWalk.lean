/-
  LawS0280CExact: the walk.
-/
import Derived.Test.YbulketuFmtSem
namespace Go.Proofs.YbulketuFmt
open Go.RowKit

set_option maxRecDepth 100000 in
set_option maxHeartbeats 1000000 in
theorem exact_free (z h n t : Int) (w : World) (z1 : z < 9223372036854775808) (z0 : -9223372036854775808 ≤ z) (h1 : h < 9223372036854775808) (h0 : -9223372036854775808 ≤ h) (n1 : n < 9223372036854775808) (n0 : -9223372036854775808 ≤ n) :
    Calls Ybaf.prog 7 #[.int .i64 z, .int .i64 h, .int .i64 n, .bool false, .int .i64 t] w fun e w' => e = .returned (.bool true) ∧ w.Extends w' := by
  obtain ⟨Z0, Z1⟩ : 0 ≤ (if z < 0 then -(z + 1) else z) ∧ (if z < 0 then -(z + 1) else z) < 9223372036854775808 := by split <;> omega
  obtain ⟨H0, H1⟩ : 0 ≤ (if h < 0 then -(h + 1) else h) ∧ (if h < 0 then -(h + 1) else h) < 9223372036854775808 := by split <;> omega
  obtain ⟨N0, N1⟩ : 0 ≤ (if n < 0 then -(n + 1) else n) ∧ (if n < 0 then -(n + 1) else n) < 9223372036854775808 := by split <;> omega
  generalize hZ : (if z < 0 then -(z + 1) else z) = Z at Z0 Z1
  generalize hH : (if h < 0 then -(h + 1) else h) = Hd at H0 H1
  generalize hN : (if n < 0 then -(n + 1) else n) = N at N0 N1
  have e1 : wrap64 (Z - Hd) = Z - Hd := by simp only [wrap64]; omega
  have hx : decide (N ≤ Z - Hd) = true → wrap64 (Hd + N) = Hd + N := by intro h; simp at h; simp only [wrap64]; omega
  cases hd : decide (N ≤ Z - Hd) with
  | true =>
    have e2 := hx hd
    go_enter Ybaf.func7, Ybaf.ntmps7
    go_wp2_with (first
      | (go_at_call 17; refine (cnat_any _ _ (by assumption)).mono ?_; rintro e w' ⟨rfl, hw⟩; subst w'; first | rw [hZ] | rw [hH] | rw [hN])
      | (go_at_call 14; refine (try_any (b := w.heap.size) (z := Z) (h := Hd) (n := N) (fr := none) (ln := 0) (by constructor <;> simp [go_sem]) Z0 H0 N0 Z1 H1).mono ?_; rintro e w1 ⟨rfl, S1, K1⟩; simp only [hd, Option.isNone_none, Bool.and_self, if_true] at S1)
      | (go_at_call 12; refine (held_any S1).mono ?_; rintro e w2 ⟨rfl, S2, K2⟩)
      | (go_at_call 11; refine (size_any S2).mono ?_; rintro e w3 ⟨rfl, S3, K3⟩)
      | (go_at_call 18; refine (waiting_any S3 (by decide) (by decide)).mono ?_; rintro e w4 ⟨rfl, S4, K4⟩))
    go_ret
    exact ⟨rfl, (((K1.trans K2).trans K3).trans K4) w (Nat.le_refl _) ((World.Extends.refl w).alloc _)⟩
  | false =>
    go_enter Ybaf.func7, Ybaf.ntmps7
    go_wp2_with (first
      | (go_at_call 17; refine (cnat_any _ _ (by assumption)).mono ?_; rintro e w' ⟨rfl, hw⟩; subst w'; first | rw [hZ] | rw [hH] | rw [hN])
      | (go_at_call 14; refine (try_any (b := w.heap.size) (z := Z) (h := Hd) (n := N) (fr := none) (ln := 0) (by constructor <;> simp [go_sem]) Z0 H0 N0 Z1 H1).mono ?_; rintro e w1 ⟨rfl, S1, K1⟩; simp only [hd, Option.isNone_none, Bool.and_false, Bool.false_eq_true, if_false] at S1)
      | (go_at_call 12; refine (held_any S1).mono ?_; rintro e w2 ⟨rfl, S2, K2⟩)
      | (go_at_call 11; refine (size_any S2).mono ?_; rintro e w3 ⟨rfl, S3, K3⟩)
      | (go_at_call 18; refine (waiting_any S3 (by decide) (by decide)).mono ?_; rintro e w4 ⟨rfl, S4, K4⟩))
    go_ret
    exact ⟨rfl, (((K1.trans K2).trans K3).trans K4) w (Nat.le_refl _) ((World.Extends.refl w).alloc _)⟩

set_option maxRecDepth 100000 in
set_option maxHeartbeats 1000000 in
theorem exact_line (z h n t : Int) (w : World) (z1 : z < 9223372036854775808) (z0 : -9223372036854775808 ≤ z) (h1 : h < 9223372036854775808) (h0 : -9223372036854775808 ≤ h) (n1 : n < 9223372036854775808) (n0 : -9223372036854775808 ≤ n) (t0 : -9223372036854775808 ≤ t) :
    Calls Ybaf.prog 7 #[.int .i64 z, .int .i64 h, .int .i64 n, .bool true, .int .i64 t] w fun e w' => e = .returned (.bool true) ∧ w.Extends w' := by
  obtain ⟨Z0, Z1⟩ : 0 ≤ (if z < 0 then -(z + 1) else z) ∧ (if z < 0 then -(z + 1) else z) < 9223372036854775808 := by split <;> omega
  obtain ⟨H0, H1⟩ : 0 ≤ (if h < 0 then -(h + 1) else h) ∧ (if h < 0 then -(h + 1) else h) < 9223372036854775808 := by split <;> omega
  obtain ⟨N0, N1⟩ : 0 ≤ (if n < 0 then -(n + 1) else n) ∧ (if n < 0 then -(n + 1) else n) < 9223372036854775808 := by split <;> omega
  generalize hZ : (if z < 0 then -(z + 1) else z) = Z at Z0 Z1
  generalize hH : (if h < 0 then -(h + 1) else h) = Hd at H0 H1
  generalize hN : (if n < 0 then -(n + 1) else n) = N at N0 N1
  generalize hT : (if t < 0 then -(t + 1) else t) = T
  have e1 : wrap64 (Z - Hd) = Z - Hd := by simp only [wrap64]; omega
  go_enter Ybaf.func7, Ybaf.ntmps7
  go_wp2_with (first
    | (go_at_call 17; refine (cnat_any _ _ (by assumption)).mono ?_; rintro e w' ⟨rfl, hw⟩; subst w'; first | rw [hZ] | rw [hH] | rw [hN] | rw [hT])
    | (go_at_call 14; refine (try_any (b := w.heap.size) (z := Z) (h := Hd) (n := N) (fr := some ⟨w.heap.size + 1, 0, none⟩) (ln := 1) (by constructor <;> simp [go_sem]) Z0 H0 N0 Z1 H1).mono ?_; rintro e w1 ⟨rfl, S1, K1⟩; simp only [Option.isNone_some, Bool.false_and, Bool.false_eq_true, if_false] at S1)
    | (go_at_call 12; refine (held_any S1).mono ?_; rintro e w2 ⟨rfl, S2, K2⟩)
    | (go_at_call 11; refine (size_any S2).mono ?_; rintro e w3 ⟨rfl, S3, K3⟩)
    | (go_at_call 18; refine (waiting_any S3 (by decide) (by decide)).mono ?_; rintro e w4 ⟨rfl, S4, K4⟩))
  go_ret
  exact ⟨rfl, (((K1.trans K2).trans K3).trans K4) w (Nat.le_refl _) (((World.Extends.refl w).alloc _).alloc _)⟩

end Go.Proofs.YbulketuFmt
