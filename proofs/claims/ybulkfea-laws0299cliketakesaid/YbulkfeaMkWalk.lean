/-
  zzs0299cmk: the walk.
-/
import Derived.Test.YbulkfeaState
import Derived.OwnWalk
namespace Go.Proofs.Ybulkfea
open Go.RowKit

theorem info33 : (Yba.prog.info? 33).map (fun i => (i.zero, i.size, i.bytes)) = some (some (.agg #[.slice none 0 0, .nilIface]), 2, 40) := by kernel_rfl
theorem info3 : (Yba.prog.info? 3).map (fun i => (i.zero, i.size, i.bytes)) = some (some (.int .i64 0), 1, 8) := by kernel_rfl

/-- What the hits are made of. -/
def Of (hs : List H1) (names : List ByteArray) : Prop := hs.map (fun h => (h.s, h.v)) = names.map (fun s => (s, (s.size : Int)))

theorem Of.snoc {hs : List H1} {names : List ByteArray} {k q : Nat} {s : ByteArray} (h : Of hs (names.take k)) (hk : names[k]? = some s) : Of (hs ++ [⟨q, s, s.size⟩]) (names.take (k + 1)) := by
  unfold Of at *
  obtain ⟨hlt, hv⟩ := List.getElem?_eq_some_iff.1 hk
  rw [List.take_succ_eq_append_getElem hlt, List.map_append, List.map_append, h, hv]
  rfl

theorem Paths.grow {w w' : World} {hs : List H1} {row : Option Nat} (h : Paths w hs) (hg : w.grownBy w' row) (hr : ∀ k, row = some k → ∃ c fz, w.heap[k]? = some (.cells c 33 fz)) : Paths w' hs := by
  intro x hx
  have h1 := h x hx
  rw [hg.block x.q (heap_lt h1) (fun e => by
    obtain ⟨c, fz, h2⟩ := hr x.q e.symm
    rw [h1] at h2
    cases h2)]
  exact h1

theorem own_kind {w : World} {B : Nat} {e : TypeId} {size : Nat} {v : Value} {n : Nat} {xs : List Value} (h : w.ownsRow B e size v n xs) : ∀ g, v.ownBlock = some g → ∃ c fz, w.heap[g]? = some (.cells c e fz) := by
  intro g hg
  rcases h.2 with ⟨rfl, _⟩ | ⟨g', cap, cur, rfl, _, hh, _⟩
  · cases hg
  · cases hg; exact ⟨_, _, hh⟩

def MkPost (w : World) (len : Nat) (names : List ByteArray) (e : Ending) (w' : World) : Prop :=
  ∃ v hs, e = .returned v ∧ w'.ownsRow w.heap.size 33 2 v len (hitCells hs) ∧ Of hs names ∧ (∀ h ∈ hs, w.heap.size ≤ h.q) ∧ Paths w' hs ∧ Below w.heap.size w w'

theorem below_grown {B : Nat} {a w w' : World} {row : Option Nat} (h : Below B a w) (hg : w.grownBy w' row) (hB : B ≤ w.heap.size) (hr : ∀ k, row = some k → B ≤ k) : Below B a w' :=
  h.trans ⟨hg.os, hg.tape, hg.output, hg.size, fun k hk => hg.block k (by omega) (fun e => by have := hr k e.symm; omega)⟩

set_option maxHeartbeats 1000000 in
theorem mk_any (at0 : Option Addr) (len cap : Nat) (names : List ByteArray) (w : World) (hlen : (len : Int) ≤ 1024) (hl : names.length = len)
    (hin : 0 < len → ∃ b off, at0 = some ⟨b, off, none⟩ ∧ b < w.heap.size ∧ ∀ i s, names[i]? = some s → w.cell? ⟨b, off + i, none⟩ = some (.string s)) :
    Calls Yba.prog 5 #[.slice at0 len cap] w (MkPost w len names) := by
  obtain ⟨i33, hi33, hz33, hs33, hb33⟩ := info_parts info33
  obtain ⟨w1, hrun, r1, r2⟩ := run_make_own (P := Yba.prog) w w.heap.size 25 33 i33 _ 2 Yba.underlying25 hi33 hz33 hs33 .i64 .i64 len (by rw [hb33]; omega) (by unfold maxLen; omega) (Nat.le_refl _)
  have HI : Hid (0 < len → ∃ b off, at0 = some ⟨b, off, none⟩ ∧ b < w.heap.size ∧ ∀ i s, names[i]? = some s → w.cell? ⟨b, off + i, none⟩ = some (.string s)) := hin
  have HL : Hid (names.length = len) := hl
  have HO : Hid (w1.ownsRow w.heap.size 33 2 (.slice (some ⟨w.heap.size, 0, none⟩) 0 len) 0 []) := r1
  have HB : Hid (Below w.heap.size w w1) := below_grown (Below.refl _ _) r2 (Nat.le_refl _) (fun _ h => by cases h)
  clear hin hl r1 r2
  go_enter Yba.func5, Yba.ntmps5
  go_wp2
  go_loopw [3, 11] (fun v3 i wr => ∃ (k : Nat) (hs : List H1), k ≤ len ∧ i = .int .i64 k ∧ wr.ownsRow w.heap.size 33 2 v3 k (hitCells hs) ∧ Of hs (names.take k) ∧ (∀ h ∈ hs, w.heap.size ≤ h.q) ∧ Paths wr hs ∧ Below w.heap.size w wr) (fun _ i _ => len - (intOf i).toNat)
  case atStart => exact ⟨0, [], Nat.zero_le _, rfl, HO.out, rfl, fun h hh => by simp at hh, fun h hh => by simp at hh, HB.out⟩
  case round =>
    obtain ⟨k, hs, hk, rfl, hown, hof, hq, hp, hbel⟩ := hrel
    by_cases hlt : (k : Int) < len
    · obtain ⟨b, off, rfl, hb, hc⟩ := HI.out (by omega)
      have hk' : k < names.length := by rw [HL.out]; omega
      obtain ⟨s, hs'⟩ : ∃ s, names[k]? = some s := ⟨_, List.getElem?_eq_getElem hk'⟩
      have ck : wr.cell? ⟨b, off + k, none⟩ = some (.string s) := (hbel.cell (by exact hb)).trans (hc k s hs')
      have HS : Hid (names[k]? = some s) := hs'
      have HR : Hid (wr.ownsRow w.heap.size 33 2 u3 k (hitCells hs)) := hown
      have HF : Hid (Of hs (names.take k)) := hof
      have HQ : Hid (∀ h ∈ hs, w.heap.size ≤ h.q) := hq
      have HP : Hid (Paths wr hs) := hp
      have HW : Hid (Below w.heap.size w wr) := hbel
      clear hs' hown hof hq hp hbel hc
      have HA : Hid (((wr.alloc (.cells #[.iface 9 (.string s)] 20)).alloc (.cells #[.slice (some ⟨wr.heap.size, 0, none⟩) 1 1, .iface 2 (.int .i64 s.size)] 33)).ownsRow w.heap.size 33 2 u3 k (hitCells hs)) := (HR.out.alloc _).alloc _
      have HN : Hid (((wr.alloc (.cells #[.iface 9 (.string s)] 20)).alloc (.cells #[.slice (some ⟨wr.heap.size, 0, none⟩) 1 1, .iface 2 (.int .i64 s.size)] 33)).heap[wr.heap.size + 1]? = some (.cells #[.slice (some ⟨wr.heap.size, 0, none⟩) 1 1, .iface 2 (.int .i64 s.size)] 33 (0, 0))) :=
        (show wr.heap.size + 1 = (wr.alloc (.cells #[.iface 9 (.string s)] 20)).heap.size by simp) ▸ heap_alloc_new _ _
      go_wp2_with (at_builtin; refine wpList_append_lies _ rfl (.tmp 15) (.tmp 23) 25 rfl w.heap.size 33 i33 (.agg #[.slice none 0 0, .nilIface]) 2 40 Yba.underlying25 hi33 hz33 hs33 hb33 rfl (by decide) u3 k (hitCells hs) (by rfl) (by exact HA.out) ⟨wr.heap.size + 1, 0, none⟩ 1 1 [.slice (some ⟨wr.heap.size, 0, none⟩) 1 1, .iface 2 (.int .i64 s.size)] (by rfl) (by rfl) (by exact World.news_of_block HN.out) (by intro u hu; simp at hu; rcases hu with rfl | rfl <;> rfl) (by omega) (by unfold maxLen; omega) (by omega) (by have := HW.out.size; simp; omega) _ rfl ?_; intro g2 cap2 w2 hown2 hgrow hat hlt2; have HA2 : Hid _ := hown2; have HG2 : Hid _ := hgrow; clear hown2 hgrow hat hlt2)
      have hg2 := HG2.out
      have hap : Paths ((wr.alloc (.cells #[.iface 9 (.string s)] 20)).alloc (.cells #[.slice (some ⟨wr.heap.size, 0, none⟩) 1 1, .iface 2 (.int .i64 s.size)] 33)) (hs ++ [⟨wr.heap.size, s, s.size⟩]) := by
        intro h hh
        rcases List.mem_append.1 hh with hh | hh
        · rw [alloc_old _ _ _ (by have := heap_lt (HP.out h hh); simp; omega), alloc_old _ _ _ (heap_lt (HP.out h hh))]
          exact HP.out h hh
        · obtain rfl : h = ⟨wr.heap.size, s, s.size⟩ := by simpa using hh
          rw [alloc_old _ _ _ (by simp)]
          exact heap_alloc_new _ _
      go_roundw
      case rel =>
        refine ⟨k + 1, hs ++ [⟨wr.heap.size, s, s.size⟩], by omega, by go_num, by rw [hitCells_append]; exact HA2.out, HF.out.snoc HS.out, ?_, hap.grow hg2 (own_kind HA.out), ?_⟩
        · intro h hh
          rcases List.mem_append.1 hh with hh | hh
          · exact HQ.out h hh
          · obtain rfl : h = ⟨wr.heap.size, s, s.size⟩ := by simpa using hh
            exact HW.out.size
        · have hsz := HW.out.size
          exact below_grown ((HW.out.alloc hsz _).alloc (by simp; omega) _) hg2 (by simp; omega) (fun j hj => (HA.out.lt j hj).1)
      case measure => simp [intOf]; omega
    · go_wp2
      go_ret
      obtain rfl : k = len := by omega
      exact ⟨_, hs, rfl, hown, by rwa [List.take_of_length_le (by rw [HL.out]; omega)] at hof, hq, hp, hbel⟩
end Go.Proofs.Ybulkfea
