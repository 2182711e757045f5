/-
  slices.Clone, slices.Equal (at []int) and zzs0299chitis: the walks.
-/
import Derived.Test.YbulkfeaMkWalk
import Derived.Lib.SliceRun
namespace Go.Proofs.Ybulkfea
open Go.RowKit

theorem assert_string (v : Value) (xT : TypeId) (w : World) : (Instr.typeAssert (.iface 9 v) xT 9 true).run Yba.prog w = .ok (.tuple #[v, .bool true]) w := by
  simp [Instr.typeAssert, run_underlying Yba.underlying9]
theorem assert_int64 (v : Value) (xT : TypeId) (w : World) : (Instr.typeAssert (.iface 2 v) xT 2 true).run Yba.prog w = .ok (.tuple #[v, .bool true]) w := by
  simp [Instr.typeAssert, run_underlying Yba.underlying2]
theorem slice_nil (w : World) (a : Option Addr) (n c n' c' : Nat) : (binOp .eql 23 (.slice a n c) (.slice none n' c')).run Yba.prog w = .ok (.bool a.isNone) w := Lib.run_eql_slice_nil w _ _ a n c n' c' Yba.underlying23

/-- A slice of ints that came in. -/
def IntsIn (w : World) (at0 : Option Addr) (len cap : Nat) (zs : List Int) : Prop :=
  zs.length = len ∧ ((at0 = none ∧ len = 0 ∧ cap = 0) ∨ ∃ x, at0 = some x ∧ ∀ (j : Nat) u, (zs.map (Value.int .i64))[j]? = some u → w.cell? (x.add j) = some u)

def ClonePost (w : World) (len : Nat) (zs : List Int) (e : Ending) (w' : World) : Prop :=
  ∃ v, e = .returned v ∧ w'.ownsRow w.heap.size 3 1 v len (zs.map (Value.int .i64)) ∧ Below w.heap.size w w'

set_option maxHeartbeats 400000 in
theorem clone_any (at0 : Option Addr) (len cap : Nat) (zs : List Int) (w : World) (hlen : (len : Int) ≤ 1024) (hin : IntsIn w at0 len cap zs) :
    Calls Yba.prog 6 #[.slice at0 len cap] w (ClonePost w len zs) := by
  obtain ⟨i3, hi3, hz3, hs3, hb3⟩ := info_parts info3
  obtain ⟨hl, ⟨rfl, rfl, rfl⟩ | ⟨x, rfl, hc⟩⟩ := hin
  · have q := slice_nil
    go_enter Yba.func6, Yba.ntmps6
    go_wp2
    go_ret
    obtain rfl : zs = [] := List.length_eq_zero_iff.1 hl
    exact ⟨_, rfl, World.ownsRow_nil _ _ _ _, Below.refl _ _⟩
  · have HC : Hid (∀ (j : Nat) u, (zs.map (Value.int .i64))[j]? = some u → w.cell? (x.add j) = some u) := hc
    have HL : Hid (zs.length = len) := hl
    clear hc hl
    have q := slice_nil
    go_enter Yba.func6, Yba.ntmps6
    go_wp2_with (at_builtin; refine wpList_append_own _ rfl _ _ 23 rfl w.heap.size 3 i3 (.int .i64 0) 1 8 Yba.underlying23 hi3 hz3 hs3 hb3 rfl (by decide) _ _ _ rfl (World.ownsRow_made w #[] 0 (Nat.le_refl _) (Nat.zero_le _) rfl) x len cap (zs.map (Value.int .i64)) rfl ?qc1 ?qc2 ?qc3 ?qc4 ?qc5 ?qc6 ?_)
    case qc1 => simp [HL.out]
    case qc2 =>
      intro j u hj
      exact Lib.cell?_alloc_some _ (HC.out j u hj)
    case qc3 => intro u hu; obtain ⟨x, _, rfl⟩ := List.mem_map.1 hu; rfl
    case qc4 => unfold maxLen; omega
    case qc5 => omega
    case qc6 => simp
    intro v' w1 hown hgrow hnil
    go_wp2
    go_ret
    refine ⟨v', rfl, by simpa using hown, ?_⟩
    exact ((Below.refl _ w).alloc (Nat.le_refl _) _).grown hgrow (by simp) (by intro k hk; simp [Value.ownBlock] at hk; omega)

set_option maxHeartbeats 400000 in
theorem hitis_any (q : Nat) (s : ByteArray) (v : Int) (w : World) (hq : w.heap[q]? = some (.cells #[.iface 9 (.string s)] 20 (0, 0))) :
    Calls Yba.prog 8 #[.agg #[.slice (some ⟨q, 0, none⟩) 1 1, .iface 2 (.int .i64 v)], .string s, .int .i64 v] w fun e w' => e = .returned (.bool true) ∧ Below w.heap.size w w' := by
  have hlt := heap_lt hq
  have c0 : w.cell? ⟨q, 0, none⟩ = some (.iface 9 (.string s)) := cell_of_row w q 0 _ _ _ hq
  have c1 : (w.alloc (.cells #[.slice (some ⟨q, 0, none⟩) 1 1, .iface 2 (.int .i64 v)] 33)).cell? ⟨q, 0, none⟩ = some (.iface 9 (.string s)) := (World.cell?_alloc_past _ _ _ (by exact hlt)).trans c0
  have asr := assert_string
  have ai := assert_int64
  clear hq
  go_enter Yba.func8, Yba.ntmps8
  go_wp2
  go_ret
  exact ⟨rfl, (Below.refl _ _).alloc (Nat.le_refl _) _⟩

set_option maxHeartbeats 400000 in
theorem equal_any (v1 v2 : Value) (n : Nat) (zs : List Int) (w : World) (h1 : w.ownsRow 0 3 1 v1 n (zs.map (Value.int .i64))) (h2 : w.ownsRow 0 3 1 v2 n (zs.map (Value.int .i64))) (hn : (n : Int) ≤ 2000) :
    Calls Yba.prog 9 #[v1, v2] w fun e w' => e = .returned (.bool true) ∧ ∃ q, w' = w.drewN q := by
  rcases Nat.eq_zero_or_pos n with rfl | hp
  · have l1 : ∃ a c, v1 = .slice a 0 c := by
      rcases h1.2 with ⟨rfl, _⟩ | ⟨g, cap, cur, rfl, _⟩
      · exact ⟨_, _, rfl⟩
      · exact ⟨_, _, rfl⟩
    have l2 : ∃ a c, v2 = .slice a 0 c := by
      rcases h2.2 with ⟨rfl, _⟩ | ⟨g, cap, cur, rfl, _⟩
      · exact ⟨_, _, rfl⟩
      · exact ⟨_, _, rfl⟩
    obtain ⟨a1, d1, rfl⟩ := l1
    obtain ⟨a2, d2, rfl⟩ := l2
    clear h1 h2
    go_enter Yba.func9, Yba.ntmps9
    go_wp2
    go_loopw [13] (fun i wr => i = .int .i64 0 ∧ wr = w) (fun _ _ => 0)
    case atStart => exact ⟨rfl, rfl⟩
    case round =>
      obtain ⟨rfl, rfl⟩ := hrel
      go_wp2
      go_ret
      exact ⟨rfl, 0, rfl⟩
  · obtain ⟨g1, d1, rfl, _, _⟩ := h1.form hp
    obtain ⟨g2, d2, rfl, _, _⟩ := h2.form hp
    have hz : zs.length = n := by have := h1.1; simpa using this
    have e1 : ∀ i, i < n → w.cell? ⟨g1, i, none⟩ = some (.int .i64 (zs.getD i 0)) := fun i hi => by rw [h1.cellAt i (by omega)]; simp [List.getD_eq_getElem?_getD, hz, hi]
    have e2 : ∀ i, i < n → w.cell? ⟨g2, i, none⟩ = some (.int .i64 (zs.getD i 0)) := fun i hi => by rw [h2.cellAt i (by omega)]; simp [List.getD_eq_getElem?_getD, hz, hi]
    have E : Hid ((∀ i, i < n → w.cell? ⟨g1, i, none⟩ = some (.int .i64 (zs.getD i 0))) ∧ ∀ i, i < n → w.cell? ⟨g2, i, none⟩ = some (.int .i64 (zs.getD i 0))) := ⟨e1, e2⟩
    clear h1 h2 e1 e2 hz
    go_enter Yba.func9, Yba.ntmps9
    go_wp2
    go_loopw [13] (fun i wr => ∃ k z : Nat, k ≤ n ∧ i = .int .i64 k ∧ wr = w.drewN z) (fun i _ => n - (intOf i).toNat)
    case atStart => exact ⟨0, 0, Nat.zero_le _, rfl, rfl⟩
    case round =>
      obtain ⟨k, z, hk, rfl, rfl⟩ := hrel
      by_cases hlt : (k : Int) < n
      · have c1 : w.cell? ⟨g1, k, none⟩ = some (.int .i64 (zs.getD k 0)) := E.out.1 k (by omega)
        have c2 : w.cell? ⟨g2, k, none⟩ = some (.int .i64 (zs.getD k 0)) := E.out.2 k (by omega)
        obtain ⟨x, hx⟩ : ∃ x, x = zs.getD k 0 := ⟨_, rfl⟩
        rw [← hx] at c1 c2
        have j0 : (0 : Int) ≤ k := by omega
        clear hx
        go_wp2
        go_quiet (fail)
        go_wp2
        go_roundw
        case rel => exact ⟨k + 1, _, by omega, by go_num, rfl⟩
        case measure => simp [intOf]; omega
      · go_wp2
        go_ret
        exact ⟨rfl, _, rfl⟩
end Go.Proofs.Ybulkfea
