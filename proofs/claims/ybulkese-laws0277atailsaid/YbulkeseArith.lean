/-
  THE WALKS OF THE ARITHMETIC: math/bits.Mul64, mulMod, addMod, subMod: each leaves the world as it was.
-/
import Derived.Test.YbulkeseRows
import Derived.Test.YbulkesePlain
import Derived.WalkKit
import Derived.Lib.Mul64
import Derived.Laws.Bits64b
import Derived.Deep.Cut
namespace Go.Proofs.Ybulkese
open Go.RowKit

namespace Bit
theorem maskN (a : Nat) (ha : a < 18446744073709551616) : bits .and .u64 (a : Int) 4294967295 = ((a % 4294967296 : Nat) : Int) := by
  have h := bits_and_u64_nat a 4294967295 ha (by omega)
  have e : a &&& 4294967295 = a % 4294967296 := Nat.and_two_pow_sub_one_eq_mod a 32
  rw [e] at h
  exact h
theorem divN (a : Nat) : (a : Int) / 4294967296 = ((a / 4294967296 : Nat) : Int) := by omega
theorem mulN (a b : Nat) : (a : Int) * (b : Int) = ((a * b : Nat) : Int) := (Int.natCast_mul a b).symm
theorem addN (a b : Nat) : (a : Int) + (b : Int) = ((a + b : Nat) : Int) := (Int.natCast_add a b).symm
theorem wrapN (a : Nat) (ha : a < 18446744073709551616) : IntKind.u64.wrap (a : Int) = (a : Int) := by rw [IntKind.wrap_u64]; omega
theorem wrapM (a : Nat) : IntKind.u64.wrap (a : Int) = ((a % 18446744073709551616 : Nat) : Int) := by rw [IntKind.wrap_u64]; omega
end Bit

set_option maxHeartbeats 1000000 in
/-- math/bits.Mul64: the two halves of the product. -/
theorem mul64_any (x y : Nat) (hx : x < 18446744073709551616) (hy : y < 18446744073709551616) (w : World) :
    Calls Yba.prog 24 #[.int .u64 x, .int .u64 y] w fun e w' => e = .returned (.tuple #[.int .u64 ((x * y / 18446744073709551616 : Nat) : Int), .int .u64 ((x * y % 18446744073709551616 : Nat) : Int)]) ∧ w' = w := by
  obtain ⟨bd, bt, bw, hhi⟩ := Lib.mul64_hi x y hx hy
  have ba := Lib.half_mul_le (a := x / 4294967296) (b := y / 4294967296) (by omega) (by omega)
  have bb := Lib.half_mul_le (a := x / 4294967296) (b := y % 4294967296) (by omega) (by omega)
  have bc := Lib.half_mul_le (a := x % 4294967296) (b := y / 4294967296) (by omega) (by omega)
  have ba' : x / 4294967296 * (y / 4294967296) < 18446744073709551616 := by omega
  have bb' : x / 4294967296 * (y % 4294967296) < 18446744073709551616 := by omega
  have bc' : x % 4294967296 * (y / 4294967296) < 18446744073709551616 := by omega
  have bh1 : x / 4294967296 * (y / 4294967296) + (x / 4294967296 * (y % 4294967296) + x % 4294967296 * (y % 4294967296) / 4294967296) / 4294967296 < 18446744073709551616 := by omega
  have bh : x / 4294967296 * (y / 4294967296) + (x / 4294967296 * (y % 4294967296) + x % 4294967296 * (y % 4294967296) / 4294967296) / 4294967296 + ((x / 4294967296 * (y % 4294967296) + x % 4294967296 * (y % 4294967296) / 4294967296) % 4294967296 + x % 4294967296 * (y / 4294967296)) / 4294967296 < 18446744073709551616 := by omega
  go_enter Yba.func24, Yba.ntmps24
  go_wp2
  simp only [Bit.maskN x hx, Bit.maskN y hy, Bit.divN, Bit.mulN, Bit.addN, Bit.wrapN _ bd, Bit.wrapN _ bb', Bit.wrapN _ bt, Bit.maskN _ bt, Bit.wrapN _ bc', Bit.wrapN _ bw, Bit.wrapN _ ba', Bit.wrapN _ bh1, Bit.wrapN _ bh, Bit.wrapM (x * y)]
  rw [hhi]
  go_ret2
  exact ⟨rfl, rfl⟩

/-- The product's words, under names that the walk does not open. -/
def hiW (n : Nat) : Nat := n / 18446744073709551616
def loW (n : Nat) : Nat := n % 18446744073709551616
def qW (n : Nat) : Nat := n / 2305843009213693952
def rW (n : Nat) : Nat := n % 2305843009213693952
theorem mul64_w (x y : Nat) (hx : x < 18446744073709551616) (hy : y < 18446744073709551616) (w : World) :
    Calls Yba.prog 24 #[.int .u64 x, .int .u64 y] w fun e w' => e = .returned (.tuple #[.int .u64 (hiW (x * y) : Nat), .int .u64 (loW (x * y) : Nat)]) ∧ w' = w := mul64_any x y hx hy w
theorem hiW_lt (n : Nat) (hn : n < 5316911983139663487003542222693990401) : hiW n < 288230376151711744 := by unfold hiW; omega
theorem loW_lt (n : Nat) : loW n < 18446744073709551616 := by unfold loW; omega
theorem qW_lt (n : Nat) (hn : n < 5316911983139663487003542222693990401) : qW n < 2305843009213693951 := by unfold qW; omega
theorem rW_lt (n : Nat) : rW n < 2305843009213693952 := by unfold rW; omega
theorem or_hi (n : Nat) (hn : n < 5316911983139663487003542222693990401) : bits .or .u64 ((hiW n : Int) * 8) ((loW n : Int) / 2305843009213693952) = (qW n : Int) := by
  have h1 := hiW_lt n hn
  have h2 := loW_lt n
  have h := bits_or_u64_nat (hiW n * 8) (loW n / 2305843009213693952) (by omega) (by omega)
  have e : hiW n * 8 ||| loW n / 2305843009213693952 = hiW n * 8 + loW n / 2305843009213693952 := by
    rw [Nat.mul_comm]
    exact (Nat.two_pow_add_eq_or_of_lt (i := 3) (by omega) (hiW n)).symm
  rw [e] at h
  have e2 : hiW n * 8 + loW n / 2305843009213693952 = qW n := by unfold hiW loW qW; omega
  rw [e2] at h
  rw [← h]
  congr 1
theorem and_lo (n : Nat) : bits .and .u64 (loW n : Int) 2305843009213693951 = (rW n : Int) := by
  have h := bits_and_u64_nat (loW n) 2305843009213693951 (loW_lt n) (by omega)
  have e : loW n &&& 2305843009213693951 = loW n % 2305843009213693952 := Nat.and_two_pow_sub_one_eq_mod (loW n) 61
  rw [e] at h
  have e2 : loW n % 2305843009213693952 = rW n := by unfold loW rW; omega
  rw [e2] at h
  exact h
theorem mm_words (x y : Nat) : mm x y = (qW (x * y) + rW (x * y)) % P61 := (mulmod_fold (x * y)).symm

set_option maxHeartbeats 400000 in
/-- mulMod. -/
theorem mulMod_any (x y : Nat) (hx : x < P61) (hy : y < P61) (w : World) :
    Calls Yba.prog 20 #[.int .u64 x, .int .u64 y] w fun e w' => e = .returned (.int .u64 (mm x y : Nat)) ∧ w' = w := by
  have hn := mulmod_word x y hx hy
  rw [mm_words]
  unfold P61 at hx hy
  have hx' : x < 18446744073709551616 := by omega
  have hy' : y < 18446744073709551616 := by omega
  have b1 := hiW_lt _ hn
  have b2 := loW_lt (x * y)
  have b3 := qW_lt _ hn
  have b4 := rW_lt (x * y)
  have e1 := or_hi _ hn
  have e2 := and_lo (x * y)
  clear hn
  have c := mul64_w x y hx' hy'
  have C : Hid (∀ w, Calls Yba.prog 24 #[.int .u64 x, .int .u64 y] w fun e w' => e = .returned (.tuple #[.int .u64 (hiW (x * y) : Nat), .int .u64 (loW (x * y) : Nat)]) ∧ w' = w) := c
  clear c
  generalize x * y = n at *
  by_cases h : 2305843009213693951 ≤ (qW n : Int) + rW n
  · have e : (qW n + rW n) % P61 = qW n + rW n - 2305843009213693951 := by unfold P61; omega
    rw [e]; clear e
    go_enter Yba.func20, Yba.ntmps20
    go_wp2_with (go_at_call 24; refine (C.out _).mono ?_; rintro e w' ⟨rfl, rfl⟩)
    go_ret
    exact ⟨by rw [Int.ofNat_sub (by omega)]; rfl, rfl⟩
  · have e : (qW n + rW n) % P61 = qW n + rW n := by unfold P61; omega
    have h' : (qW n : Int) + rW n < 2305843009213693951 := by omega
    rw [e]; clear e h
    go_enter Yba.func20, Yba.ntmps20
    go_upto_region 3 with (go_at_call 24; refine (C.out _).mono ?_; rintro e w' ⟨rfl, rfl⟩)
    clear e1 e2 C b1 b2
    clear hx hy hx' hy'
    have h : ¬ 2305843009213693951 ≤ (qW n : Int) + rW n := by omega
    clear h' b3 b4
    go_wp2
    go_ret
    exact ⟨by simp, rfl⟩

set_option maxHeartbeats 400000 in
/-- addMod. -/
theorem addMod_any (x y : Nat) (hx : x < P61) (hy : y < P61) (w : World) :
    Calls Yba.prog 19 #[.int .u64 x, .int .u64 y] w fun e w' => e = .returned (.int .u64 (am x y : Nat)) ∧ w' = w := by
  unfold P61 at hx hy
  by_cases h : 2305843009213693951 ≤ (x : Int) + y
  · have e : am x y = x + y - 2305843009213693951 := by unfold am P61; omega
    rw [e]; clear e
    go_enter Yba.func19, Yba.ntmps19
    go_wp2
    go_ret
    exact ⟨by rw [Int.ofNat_sub (by omega)]; rfl, rfl⟩
  · have e : am x y = x + y := by unfold am P61; omega
    rw [e]; clear e
    go_enter Yba.func19, Yba.ntmps19
    go_wp2
    go_ret
    exact ⟨by simp, rfl⟩

set_option maxHeartbeats 400000 in
/-- subMod. -/
theorem subMod_any (x y : Nat) (hx : x < P61) (hy : y < P61) (w : World) :
    Calls Yba.prog 22 #[.int .u64 x, .int .u64 y] w fun e w' => e = .returned (.int .u64 (sm x y : Nat)) ∧ w' = w := by
  unfold P61 at hx hy
  by_cases h : (y : Int) ≤ x
  · have e : sm x y = x - y := by unfold sm P61; omega
    rw [e]; clear e
    go_enter Yba.func22, Yba.ntmps22
    go_wp2
    go_ret
    exact ⟨by rw [Int.ofNat_sub (by omega)]; rfl, rfl⟩
  · have e : sm x y = x + 2305843009213693951 - y := by unfold sm P61; omega
    rw [e]; clear e
    go_enter Yba.func22, Yba.ntmps22
    go_wp2
    go_ret
    exact ⟨by rw [Int.ofNat_sub (by omega)]; rfl, rfl⟩

#print axioms mulMod_any
#print axioms addMod_any
#print axioms subMod_any
end Go.Proofs.Ybulkese
