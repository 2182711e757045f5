/-
  THE RUN OF SPANS OVER A TEXT, PLAINLY: no Go in sight (the structure 'Shape' is YbulkeseHead's).
-/
import Derived.Test.YbulkeseHead
namespace Go.Proofs.Ybulkese

/-- The j-th span, clamped and ordered. -/
def spF (L : Nat) (S : List (Nat × Nat)) (j : Nat) : Nat := min ((S.getD j (0, 0)).1 % (L + 1)) ((S.getD j (0, 0)).2 % (L + 1))
def spT (L : Nat) (S : List (Nat × Nat)) (j : Nat) : Nat := max ((S.getD j (0, 0)).1 % (L + 1)) ((S.getD j (0, 0)).2 % (L + 1))
/-- The ids of the first j spans, laid flat. -/
def flTo (L : Nat) (S : List (Nat × Nat)) (l : List Nat) : Nat → List Nat
  | 0 => []
  | j + 1 => flTo L S l j ++ (l.drop (spF L S j)).take (spT L S j - spF L S j)
def spA (L : Nat) (S : List (Nat × Nat)) (l : List Nat) (j : Nat) : Nat := (flTo L S l j).length

section
variable (L : Nat) (S : List (Nat × Nat)) (l : List Nat)
theorem spF_le (j : Nat) : spF L S j ≤ spT L S j := by unfold spF spT; omega
theorem spT_le (j : Nat) : spT L S j ≤ L := by
  have h1 := Nat.mod_lt (S.getD j (0, 0)).1 (show 0 < L + 1 by omega)
  have h2 := Nat.mod_lt (S.getD j (0, 0)).2 (show 0 < L + 1 by omega)
  unfold spT; omega
theorem seg_len (hl : l.length = L) (j : Nat) : ((l.drop (spF L S j)).take (spT L S j - spF L S j)).length = spT L S j - spF L S j := by
  have := spT_le L S j
  rw [List.length_take, List.length_drop, hl]; omega
theorem spA_succ (hl : l.length = L) (j : Nat) : spA L S l (j + 1) = spA L S l j + (spT L S j - spF L S j) := by
  show (flTo L S l j ++ (l.drop (spF L S j)).take (spT L S j - spF L S j)).length = _
  rw [List.length_append, seg_len L S l hl]; rfl
/-- A later run begins with an earlier one. -/
theorem flTo_prefix (i k : Nat) : ∃ r, flTo L S l (i + k) = flTo L S l i ++ r := by
  induction k with
  | zero => exact ⟨[], by simp⟩
  | succ k ih =>
    obtain ⟨r, hr⟩ := ih
    refine ⟨r ++ (l.drop (spF L S (i + k))).take (spT L S (i + k) - spF L S (i + k)), ?_⟩
    show flTo L S l (i + k) ++ (l.drop (spF L S (i + k))).take (spT L S (i + k) - spF L S (i + k)) = _
    rw [hr, List.append_assoc]
theorem flTo_seg (hl : l.length = L) (n x k : Nat) (hx : x < n) (hk : k ≤ spT L S x - spF L S x) : ((flTo L S l n).drop (spA L S l x)).take k = (l.drop (spF L S x)).take k := by
  obtain ⟨r, hr⟩ := flTo_prefix L S l (x + 1) (n - (x + 1))
  rw [show x + 1 + (n - (x + 1)) = n by omega] at hr
  rw [hr]
  show ((flTo L S l x ++ (l.drop (spF L S x)).take (spT L S x - spF L S x) ++ r).drop (flTo L S l x).length).take k = _
  rw [List.append_assoc, List.drop_left, List.take_append_of_le_length (by rw [seg_len L S l hl]; exact hk), List.take_take, Nat.min_eq_left hk]
theorem shape_of (hl : l.length = L) (hL : L ≤ 1024) (hn : 0 < S.length) (hn2 : S.length ≤ 256) : Shape S.length L l (flTo L S l S.length) (spF L S) (spT L S) (spA L S l) where
  pos := hn
  small := hn2
  len := hl
  lenS := hL
  bd := fun x _ => ⟨spF_le L S x, spT_le L S x⟩
  at0 := rfl
  step := fun x _ => spA_succ L S l hl x
  last := by
    have := spA_succ L S l hl (S.length - 1)
    rw [show S.length - 1 + 1 = S.length by omega] at this
    exact this
  seg := fun x hx k hk => flTo_seg L S l hl S.length x k hx hk
theorem spA_le (hl : l.length = L) (hL : L ≤ 1024) (j : Nat) : spA L S l j ≤ j * 1024 := by
  induction j with
  | zero => show ([] : List Nat).length ≤ _; simp
  | succ j ih =>
    have h2 := spT_le L S j
    rw [spA_succ L S l hl]
    omega
/-- The prefix of the whole run up to the x-th span is the run so far. -/
theorem pf_flTo (b n x : Nat) (hx : x ≤ n) : pf b (flTo L S l n) (spA L S l x) = hz b 0 (flTo L S l x) := by
  obtain ⟨r, hr⟩ := flTo_prefix L S l x (n - x)
  rw [show x + (n - x) = n by omega] at hr
  unfold pf spA
  rw [hr, List.take_left]
end
#print axioms shape_of
end Go.Proofs.Ybulkese
