/-
  LawS0280AFresh: the walk.
-/
import Derived.Test.YbulketuFmtSem
namespace Go.Proofs.YbulketuFmt
open Go.RowKit

theorem fresh_walk (a : Int) (w : World) (ha : a < 9223372036854775808) (ha' : -9223372036854775808 ≤ a) :
    Calls Ybaf.prog 3 #[.int .i64 a] w fun e w' => e = .returned (.bool true) ∧ w.Extends w' := by
  have hm : 0 ≤ (if a < 0 then -(a + 1) else a) := by split <;> omega
  generalize hM : (if a < 0 then -(a + 1) else a) = M at hm
  go_enter Ybaf.func3, Ybaf.ntmps3
  go_wp2_with (go_at_call 9; refine (anat_any a w ha ha').mono ?_; rintro e w' ⟨rfl, rfl⟩; rw [hM])
  go_wp2_with (go_at_call 10; refine (new_any M w' hm).mono ?_; rintro e w1 ⟨rfl, S1, K1⟩)
  go_wp2_with (go_at_call 11; refine (size_any S1).mono ?_; rintro e w2 ⟨rfl, S2, K2⟩)
  go_wp2_with (go_at_call 12; refine (held_any S2).mono ?_; rintro e w3 ⟨rfl, S3, K3⟩)
  go_wp2_with (go_at_call 11; refine (size_any S3).mono ?_; rintro e w4 ⟨rfl, S4, K4⟩)
  go_ret
  exact ⟨rfl, (((K1.trans K2).trans K3).trans K4) w' (Nat.le_refl _) (.refl _)⟩
end Go.Proofs.YbulketuFmt
