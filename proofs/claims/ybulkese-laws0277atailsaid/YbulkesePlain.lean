/-
  THE PLAIN LAWS OF THE FINGERPRINTS: arithmetic modulo 2^61 - 1; no Go in sight.
-/
namespace Go.Proofs.Ybulkese

def P61 : Nat := 2305843009213693951
def mm (x y : Nat) : Nat := x * y % P61
def am (x y : Nat) : Nat := (x + y) % P61
def sm (x y : Nat) : Nat := (x + P61 - y) % P61
def pw (b : Nat) : Nat → Nat
  | 0 => 1
  | n + 1 => mm (pw b n) b
/-- Horner over ids, from h on. -/
def hz (b : Nat) : Nat → List Nat → Nat
  | h, [] => h
  | h, x :: l => hz b (am (mm h b) (x + 1)) l
/-- The same, not reduced. -/
def hu (b : Nat) : Nat → List Nat → Nat
  | h, [] => h
  | h, x :: l => hu b (h * b + (x + 1)) l

theorem mm_lt (x y : Nat) : mm x y < P61 := Nat.mod_lt _ (by decide)
theorem am_lt (x y : Nat) : am x y < P61 := Nat.mod_lt _ (by decide)
theorem sm_lt (x y : Nat) : sm x y < P61 := Nat.mod_lt _ (by decide)
theorem pw_lt (b n : Nat) : pw b n < P61 := by
  cases n with
  | zero => show (1 : Nat) < P61; decide
  | succ n => exact mm_lt _ _
theorem hz_lt (b : Nat) (l : List Nat) : ∀ h, h < P61 → hz b h l < P61 := by
  induction l with
  | nil => intro h hh; exact hh
  | cons x l ih => intro h _; exact ih _ (am_lt _ _)
theorem hz0_lt (b : Nat) (l : List Nat) : hz b 0 l < P61 := hz_lt b l 0 (by decide)

theorem hz_append (b : Nat) (l k : List Nat) : ∀ h, hz b h (l ++ k) = hz b (hz b h l) k := by
  induction l with
  | nil => intro h; rfl
  | cons x l ih => intro h; exact ih _
theorem hz_snoc (b h : Nat) (l : List Nat) (x : Nat) : hz b h (l ++ [x]) = am (mm (hz b h l) b) (x + 1) := by
  rw [hz_append]; rfl

theorem mm_mod (x y : Nat) : mm (x % P61) (y % P61) = (x * y) % P61 := by unfold mm; rw [← Nat.mul_mod]
theorem am_mod (x y : Nat) : am (x % P61) (y % P61) = (x + y) % P61 := by unfold am; rw [← Nat.add_mod]

theorem pw_eq (b n : Nat) : pw b n = b ^ n % P61 := by
  induction n with
  | zero => rfl
  | succ n ih =>
    show mm (pw b n) b = _
    rw [ih, Nat.pow_succ]
    unfold mm
    rw [Nat.mod_mul_mod]

theorem hz_eq (b : Nat) (l : List Nat) : ∀ h, hz b (h % P61) l = hu b h l % P61 := by
  induction l with
  | nil => intro h; rfl
  | cons x l ih =>
    intro h
    show hz b (am (mm (h % P61) b) (x + 1)) l = hu b (h * b + (x + 1)) l % P61
    rw [← ih]
    congr 1
    unfold am mm
    rw [Nat.mod_mul_mod, Nat.mod_add_mod]

theorem hu_shift (b : Nat) (l : List Nat) : ∀ h, hu b h l = h * b ^ l.length + hu b 0 l := by
  induction l with
  | nil => intro h; simp [hu]
  | cons x l ih =>
    intro h
    show hu b (h * b + (x + 1)) l = h * b ^ (l.length + 1) + hu b (0 * b + (x + 1)) l
    rw [ih (h * b + (x + 1)), ih (0 * b + (x + 1)), Nat.pow_succ, Nat.add_mul, Nat.mul_assoc, Nat.mul_comm b, Nat.zero_mul, Nat.zero_add, Nat.add_assoc]

/-- A sequence followed by another: its fingerprint shifted, and the other's added. -/
theorem hz_join (b : Nat) (l k : List Nat) : hz b 0 (l ++ k) = am (mm (hz b 0 l) (pw b k.length)) (hz b 0 k) := by
  have e0 : ∀ l, hz b 0 l = hu b 0 l % P61 := fun l => hz_eq b l 0
  rw [hz_append, e0 l, hz_eq, hu_shift, e0 k, pw_eq, mm_mod, am_mod]

theorem sm_add (x c : Nat) (hc : c < P61) (hx : x < P61) : sm (am x c) x = c := by
  unfold sm am P61 at *; omega

theorem hz_between (b : Nat) (l k : List Nat) : sm (hz b 0 (l ++ k)) (mm (hz b 0 l) (pw b k.length)) = hz b 0 k := by
  rw [hz_join, sm_add _ _ (hz0_lt b k) (mm_lt _ _)]

/-- The prefix's fingerprint. -/
def pf (b : Nat) (l : List Nat) (k : Nat) : Nat := hz b 0 (l.take k)
theorem pf_lt (b : Nat) (l : List Nat) (k : Nat) : pf b l k < P61 := hz0_lt _ _
theorem pf_zero (b : Nat) (l : List Nat) : pf b l 0 = 0 := rfl
theorem pf_succ (b : Nat) (l : List Nat) (k : Nat) (h : k < l.length) : pf b l (k + 1) = am (mm (pf b l k) b) (l.getD k 0 + 1) := by
  unfold pf
  rw [List.take_succ_eq_append_getElem h, hz_snoc]
  simp [List.getD_eq_getElem?_getD, h]

theorem take_cut (l : List Nat) (i j : Nat) (h : i ≤ j) : l.take j = l.take i ++ (l.drop i).take (j - i) := by
  have : j = i + (j - i) := by omega
  rw [this, List.take_add]
  congr 2
  omega

/-- 'between' is right. -/
theorem between_law (b : Nat) (l : List Nat) (i j : Nat) (h : i ≤ j) (hj : j ≤ l.length) :
    sm (pf b l j) (mm (pf b l i) (pw b (j - i))) = pf b (l.drop i) (j - i) := by
  unfold pf
  rw [take_cut l i j h]
  have hl : ((l.drop i).take (j - i)).length = j - i := by simp; omega
  have := hz_between b (l.take i) ((l.drop i).take (j - i))
  rw [hl] at this
  exact this
/-- 'join' of a prefix and what lies between. -/
theorem join_law (b : Nat) (l : List Nat) (i j : Nat) (h : i ≤ j) (hj : j ≤ l.length) :
    am (mm (pf b l i) (pw b (j - i))) (pf b (l.drop i) (j - i)) = pf b l j := by
  unfold pf
  rw [take_cut l i j h, hz_join]
  have hl : ((l.drop i).take (j - i)).length = j - i := by simp; omega
  rw [hl]

/-- The word arithmetic of mulMod. -/
theorem mulmod_word (x y : Nat) (hx : x < P61) (hy : y < P61) : x * y < 5316911983139663487003542222693990401 := by
  have : x * y ≤ 2305843009213693950 * 2305843009213693950 := Nat.mul_le_mul (by unfold P61 at hx; omega) (by unfold P61 at hy; omega)
  omega
theorem mulmod_fold (n : Nat) : (n / 2305843009213693952 + n % 2305843009213693952) % P61 = n % P61 := by
  unfold P61; omega

#print axioms between_law
#print axioms join_law
#print axioms mulmod_fold
end Go.Proofs.Ybulkese
