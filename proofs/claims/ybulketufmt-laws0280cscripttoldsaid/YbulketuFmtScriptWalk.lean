/-
  LawS0280CScript: the walk.
-/
import Derived.Test.YbulketuFmtSem
namespace Go.Proofs.YbulketuFmt
open Go.RowKit

set_option maxRecDepth 100000 in
set_option maxHeartbeats 1000000 in
theorem script_walk (z : Int) (at0 : Option Addr) (len cap : Nat) (w : World) (z1 : z < 9223372036854775808) (z0 : -9223372036854775808 ≤ z) (hlen : len ≤ 9223372036854775807)
    (hin : 0 < len → ∃ b off, at0 = some ⟨b, off, none⟩ ∧ b < w.heap.size ∧ ∀ i, i < len → ∃ x : Int, w.cell? ⟨b, off + i, none⟩ = some (.int .i64 x) ∧ -9223372036854775808 ≤ x ∧ x < 9223372036854775808) :
    Calls Ybaf.prog 8 #[.int .i64 z, .slice at0 len cap] w fun e w' => e = .returned (.bool true) ∧ w.Extends w' := by
  obtain ⟨Z0, Z1⟩ : 0 ≤ (if z < 0 then -(z + 1) else z) ∧ (if z < 0 then -(z + 1) else z) < 9223372036854775808 := by split <;> omega
  generalize hZ : (if z < 0 then -(z + 1) else z) = Z at Z0 Z1
  have HI : Hid (0 < len → ∃ b off, at0 = some ⟨b, off, none⟩ ∧ b < w.heap.size ∧ ∀ i, i < len → ∃ x : Int, w.cell? ⟨b, off + i, none⟩ = some (.int .i64 x) ∧ -9223372036854775808 ≤ x ∧ x < 9223372036854775808) := hin
  clear hin
  by_cases hbig : (1024 : Int) < len
  · have hd : decide ((1024 : Int) < len) = true := by simp; omega
    go_enter Ybaf.func8, Ybaf.ntmps8
    go_wp2
    go_ret
    exact ⟨rfl, .refl _⟩
  · have hd : decide ((1024 : Int) < len) = false := by simp; omega
    go_enter Ybaf.func8, Ybaf.ntmps8
    go_wp2_with (first
      | (go_at_call 17; refine (cnat_any z w z0).mono ?_; rintro e w' ⟨rfl, hw⟩; subst w'; rw [hZ])
      | (go_at_call 10; refine (new_any Z w Z0).mono ?_; rintro e w1 ⟨rfl, S1, K1⟩))
    have HX1 : Hid (w.Extends w1) := K1 w (Nat.le_refl _) (.refl _)
    go_loopw [7, 8] (fun v7 v8 wr => ∃ (k : Nat) (s : Int), k ≤ len ∧ v8 = .int .i64 k ∧ v7 = .int .i64 s ∧ 0 ≤ s ∧ s ≤ Z ∧ Sem wr w.heap.size Z s none 0 ∧ w.Extends wr) (fun _ i _ => len - (intOf i).toNat)
    case atStart => exact ⟨0, 0, Nat.zero_le _, rfl, rfl, Int.le_refl _, Z0, S1, HX1.out⟩
    case round =>
      obtain ⟨k, s, hk, rfl, rfl, s0, s1, S, hx⟩ := hrel
      by_cases hlt : (k : Int) < len
      · obtain ⟨bi, off, rfl, hb, hc⟩ := HI.out (by omega)
        obtain ⟨x, ck0, x0, x1⟩ := hc k (by omega)
        have ck : wr.cell? ⟨bi, off + k, none⟩ = some (.int .i64 x) := (hx.cell ⟨bi, off + k, none⟩ hb).trans ck0
        obtain ⟨N0, N1⟩ : 0 ≤ (if x < 0 then -(x + 1) else x) ∧ (if x < 0 then -(x + 1) else x) < 9223372036854775808 := by split <;> omega
        generalize hN : (if x < 0 then -(x + 1) else x) = N at N0 N1
        have e1 : wrap64 (Z - s) = Z - s := by simp only [wrap64]; omega
        have hy : decide (N ≤ Z - s) = true → wrap64 (s + N) = s + N := by intro h; simp at h; simp only [wrap64]; omega
        clear hc
        cases hd3 : decide (N ≤ Z - s) with
        | true =>
          have e2 := hy hd3
          have le2 : s + N ≤ Z := by simp at hd3; omega
          go_wp2_with (first
            | (go_at_call 17; refine (cnat_any x _ x0).mono ?_; rintro e w' ⟨rfl, hw⟩; subst w'; rw [hN])
            | (go_at_call 14; refine (try_any (n := N) S Z0 s0 N0 Z1 (by omega)).mono ?_; rintro e w2 ⟨rfl, S2, K2⟩; simp only [hd3, Option.isNone_none, Bool.and_self, if_true] at S2)
            | (go_at_call 12; refine (held_any S2).mono ?_; rintro e w3 ⟨rfl, S3, K3⟩))
          go_roundw
          case rel => exact ⟨k + 1, s + N, by omega, by go_num, rfl, by omega, le2, S3, (K2.trans K3) w (Nat.le_refl _) hx⟩
          case measure => simp [intOf]; omega
        | false =>
          go_wp2_with (first
            | (go_at_call 17; refine (cnat_any x _ x0).mono ?_; rintro e w' ⟨rfl, hw⟩; subst w'; rw [hN])
            | (go_at_call 14; refine (try_any (n := N) S Z0 s0 N0 Z1 (by omega)).mono ?_; rintro e w2 ⟨rfl, S2, K2⟩; simp only [hd3, Option.isNone_none, Bool.and_false, Bool.false_eq_true, if_false] at S2)
            | (go_at_call 12; refine (held_any S2).mono ?_; rintro e w3 ⟨rfl, S3, K3⟩))
          go_roundw
          case rel => exact ⟨k + 1, s, by omega, by go_num, rfl, s0, s1, S3, (K2.trans K3) w (Nat.le_refl _) hx⟩
          case measure => simp [intOf]; omega
      · have hd2 : decide ((k : Int) < len) = false := by simp; omega
        have hle : decide (s ≤ Z) = true := by simp; omega
        go_wp2_with (go_at_call 11; refine (size_any S).mono ?_; rintro e w4 ⟨rfl, S4, K4⟩)
        go_ret
        exact ⟨rfl, K4 w (Nat.le_refl _) hx⟩
end Go.Proofs.YbulketuFmt
