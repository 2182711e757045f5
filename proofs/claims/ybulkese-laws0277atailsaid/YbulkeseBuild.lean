/-
  THE WALK OF zzs0277abuild.
-/
import Derived.Test.YbulkeseBuilt
import Derived.Test.YbulkeseHeldReach
import Derived.Deep.Cut
namespace Go.Proofs.Ybulkese
open Go.RowKit
attribute [local go_sem ↓] Go.wp_at_zero Go.wp_at_succ

theorem info52 : (Yba.prog.info? 52).map (fun i => (i.zero, i.size, i.bytes)) = some (some (.agg #[.int .i64 0, .int .i64 0]), 2, 16) := by kernel_rfl
theorem info3 : (Yba.prog.info? 3).map (fun i => (i.zero, i.size, i.bytes)) = some (some (.int .i64 0), 1, 8) := by kernel_rfl
/-- make([]T, 0, n), three times. -/
theorem run_make_sp (n : Nat) (hn : n ≤ 256) (w : World) : (Instr.makeSlice 27 (.int .i64 0) (.int .i64 (n : Int))).run Yba.prog w = .ok (.slice (some ⟨w.heap.size, 0, none⟩) 0 n) (w.alloc (.cells (madeCells #[.int .i64 0, .int .i64 0] (n * 2)) 52)) := by
  obtain ⟨i0, hi, hz0, hz1, hz2⟩ := info_parts info52
  have hr := run_make (P := Yba.prog) w 27 52 i0 _ Yba.underlying27 hi hz0 .i64 .i64 0 n (by omega) (by omega) (by rw [hz2]; omega) (by omega)
  simp only [Int.toNat_natCast, hz1] at hr
  exact hr
theorem run_make_at (n : Nat) (hn : n ≤ 256) (w : World) : (Instr.makeSlice 28 (.int .i64 0) (.int .i64 (n : Int))).run Yba.prog w = .ok (.slice (some ⟨w.heap.size, 0, none⟩) 0 n) (w.alloc (.cells (madeCells #[.int .i64 0] (n * 1)) 3)) := by
  obtain ⟨i0, hi, hz0, hz1, hz2⟩ := info_parts info3
  have hr := run_make (P := Yba.prog) w 28 3 i0 _ Yba.underlying28 hi hz0 .i64 .i64 0 n (by omega) (by omega) (by rw [hz2]; omega) (by omega)
  simp only [Int.toNat_natCast, hz1] at hr
  exact hr
theorem run_make_pr (n : Nat) (hn : n ≤ 256) (w : World) : (Instr.makeSlice 29 (.int .i64 0) (.int .i64 (n : Int))).run Yba.prog w = .ok (.slice (some ⟨w.heap.size, 0, none⟩) 0 n) (w.alloc (.cells (madeCells #[.int .u64 0, .int .u64 0] (n * 2)) 36)) := by
  obtain ⟨i0, hi, hz0, hz1, hz2⟩ := info_parts info36
  have hr := run_make (P := Yba.prog) w 29 36 i0 _ Yba.underlying29 hi hz0 .i64 .i64 0 n (by omega) (by omega) (by rw [hz2]; omega) (by omega)
  simp only [Int.toNat_natCast, hz1] at hr
  exact hr
theorem keep_b5 {wr w5 : World} {bs tp ti i j o : Nat} {v0 v1 v2 v3 v4 : Value} (hb : Below wr.drew.heap.size wr.drew w5) (H : bs < wr.heap.size ∧ tp < wr.heap.size ∧ ti < wr.heap.size)
    (S : wr.cell? ⟨bs, 0, none⟩ = some v0 ∧ wr.cell? ⟨bs, 1, none⟩ = some v1 ∧ wr.cell? ⟨tp, i, none⟩ = some v2 ∧ wr.cell? ⟨tp, j, none⟩ = some v3 ∧ wr.cell? ⟨ti, o, none⟩ = some v4) :
    w5.cell? ⟨bs, 0, none⟩ = some v0 ∧ w5.cell? ⟨bs, 1, none⟩ = some v1 ∧ w5.cell? ⟨tp, i, none⟩ = some v2 ∧ w5.cell? ⟨tp, j, none⟩ = some v3 ∧ w5.cell? ⟨ti, o, none⟩ = some v4 := by
  have k : ∀ b o, b < wr.heap.size → w5.cell? ⟨b, o, none⟩ = wr.cell? ⟨b, o, none⟩ := fun b o h => hb.cell (p := ⟨b, o, none⟩) h
  obtain ⟨s0, s1, s2, s3, s4⟩ := S
  exact ⟨by rw [k _ _ H.1]; exact s0, by rw [k _ _ H.1]; exact s1, by rw [k _ _ H.2.1]; exact s2, by rw [k _ _ H.2.1]; exact s3, by rw [k _ _ H.2.2]; exact s4⟩
theorem keep_s5 {w5 : World} {bs tp ti p r : Nat} {v0 v1 v2 v3 v4 u0 u1 : Value} (H : ti < tp ∧ bs < tp ∧ r < bs ∧ bs < ti)
    (S : w5.cell? ⟨bs, 0, none⟩ = some v0 ∧ w5.cell? ⟨bs, 1, none⟩ = some v1 ∧ w5.cell? ⟨tp, p * 2, none⟩ = some v2 ∧ w5.cell? ⟨tp, p * 2 + 1, none⟩ = some v3 ∧ w5.cell? ⟨ti, p, none⟩ = some v4) :
    ((w5.setCell ⟨tp, (p + 1) * 2, none⟩ u0).setCell ⟨tp, (p + 1) * 2 + 1, none⟩ u1).cell? ⟨bs, 0, none⟩ = some v0 ∧ ((w5.setCell ⟨tp, (p + 1) * 2, none⟩ u0).setCell ⟨tp, (p + 1) * 2 + 1, none⟩ u1).cell? ⟨bs, 1, none⟩ = some v1 ∧
    ((w5.setCell ⟨tp, (p + 1) * 2, none⟩ u0).setCell ⟨tp, (p + 1) * 2 + 1, none⟩ u1).cell? ⟨tp, p * 2, none⟩ = some v2 ∧ ((w5.setCell ⟨tp, (p + 1) * 2, none⟩ u0).setCell ⟨tp, (p + 1) * 2 + 1, none⟩ u1).cell? ⟨tp, p * 2 + 1, none⟩ = some v3 ∧
    ((w5.setCell ⟨tp, (p + 1) * 2, none⟩ u0).setCell ⟨tp, (p + 1) * 2 + 1, none⟩ u1).cell? ⟨ti, p, none⟩ = some v4 := by
  have k : ∀ b o, (b ≠ tp ∨ (o ≠ (p + 1) * 2 ∧ o ≠ (p + 1) * 2 + 1)) → ((w5.setCell ⟨tp, (p + 1) * 2, none⟩ u0).setCell ⟨tp, (p + 1) * 2 + 1, none⟩ u1).cell? ⟨b, o, none⟩ = w5.cell? ⟨b, o, none⟩ := fun b o h => by
    rw [World.cell?_setCell_other _ _ _ _ (by intro e; simp only [Addr.mk.injEq] at e; omega), World.cell?_setCell_other _ _ _ _ (by intro e; simp only [Addr.mk.injEq] at e; omega)]
  obtain ⟨s0, s1, s2, s3, s4⟩ := S
  exact ⟨by rw [k _ _ (by omega)]; exact s0, by rw [k _ _ (by omega)]; exact s1, by rw [k _ _ (by omega)]; exact s2, by rw [k _ _ (by omega)]; exact s3, by rw [k _ _ (by omega)]; exact s4⟩
theorem keep_a5 {w9 : World} {o : Obj} {bs gr ti i j k : Nat} {v0 v1 v2 v3 v4 : Value} (H : bs < w9.heap.size ∧ gr < w9.heap.size ∧ ti < w9.heap.size)
    (S : w9.cell? ⟨bs, 0, none⟩ = some v0 ∧ w9.cell? ⟨bs, 1, none⟩ = some v1 ∧ w9.cell? ⟨gr, i, none⟩ = some v2 ∧ w9.cell? ⟨gr, j, none⟩ = some v3 ∧ w9.cell? ⟨ti, k, none⟩ = some v4) :
    (w9.alloc o).cell? ⟨bs, 0, none⟩ = some v0 ∧ (w9.alloc o).cell? ⟨bs, 1, none⟩ = some v1 ∧ (w9.alloc o).cell? ⟨gr, i, none⟩ = some v2 ∧ (w9.alloc o).cell? ⟨gr, j, none⟩ = some v3 ∧ (w9.alloc o).cell? ⟨ti, k, none⟩ = some v4 := by
  have h : ∀ b o', b < w9.heap.size → (w9.alloc o).cell? ⟨b, o', none⟩ = w9.cell? ⟨b, o', none⟩ := fun b o' hb => World.cell?_alloc_past _ _ _ hb
  obtain ⟨s0, s1, s2, s3, s4⟩ := S
  exact ⟨by rw [h _ _ H.1]; exact s0, by rw [h _ _ H.1]; exact s1, by rw [h _ _ H.2.1]; exact s2, by rw [h _ _ H.2.1]; exact s3, by rw [h _ _ H.2.2]; exact s4⟩
theorem tp_row {wr w5 : World} {tp N : Nat} {q : Nat → Nat × Nat} (hb : Below wr.drew.heap.size wr.drew w5) (hR : wr.rowIs tp 36 (N * 2) (fpF q)) : w5.rowIs tp 36 (N * 2) (fpF q) := hR.of_block (hb.block tp hR.lt)
theorem tp_room {wr w5 : World} {tp N i : Nat} {q : Nat → Nat × Nat} (hb : Below wr.drew.heap.size wr.drew w5) (hR : wr.rowIs tp 36 (N * 2) (fpF q)) (hi : i < N) :
    w5.cell? ⟨tp, i * 2, none⟩ = some (fpF q (i * 2)) ∧ w5.cell? ⟨tp, i * 2 + 1, none⟩ = some (fpF q (i * 2 + 1)) ∧ w5.frozen? ⟨tp, i * 2, none⟩ = false ∧ w5.frozen? ⟨tp, i * 2 + 1, none⟩ = false := by
  have h := tp_row hb hR
  exact ⟨h.cell (by omega), h.cell (by omega), h.frozen _, h.frozen _⟩

/-- What zzs0277abuild comes to. -/
def BuildPost (ba bb L n : Nat) (l : List Nat) (S : List (Nat × Nat)) (w : World) (e : Ending) (w' : World) : Prop :=
  ∃ TX B g tp gs ga gp gf cf gr cr A Z : Nat, e = .returned (.tuple #[.agg #[.pointer (some ⟨TX, 0, none⟩), .slice (some ⟨gs, 0, none⟩) n n, .slice (some ⟨ga, 0, none⟩) n n, .slice (some ⟨gp, 0, none⟩) n n, .int .i64 (spA L S l n : Nat)], .slice (some ⟨gf, 0, none⟩) (spA L S l n) cf, .slice (some ⟨gr, 0, none⟩) (spA L S l n + 1) cr]) ∧
      (ba : Int) % 2305843009213693951 = A ∧ (bb : Int) % 2305843009213693951 = Z ∧ A < P61 ∧ Z < P61 ∧ Built w w' l S L n TX B g tp gs ga gp gf gr A Z

set_option linter.unusedSimpArgs false in
set_option maxRecDepth 100000 in
set_option maxHeartbeats 2000000 in
theorem build_any (ba bb : Nat) (at0 at1 : Option Addr) (L cap0 n cap1 : Nat) (l : List Nat) (S : List (Nat × Nat)) (w : World)
    (hL : (L : Int) ≤ 1024) (hl : l.length = L) (hx : ∀ x ∈ l, x < 65536)
    (hin : 0 < L → ∃ b off, at0 = some ⟨b, off, none⟩ ∧ b < w.heap.size ∧ ∀ i, i < L → w.cell? ⟨b, off + i, none⟩ = some (.int .u16 (l.getD i 0 : Nat)))
    (hn : (n : Int) ≤ 256) (hn0 : 0 < n) (hS : S.length = n) (hb16 : ∀ x ∈ S, x.1 < 65536 ∧ x.2 < 65536)
    (hin1 : ∃ b off, at1 = some ⟨b, off, none⟩ ∧ b < w.heap.size ∧ ∀ i, i < n → w.cell? ⟨b, off + i * 2, none⟩ = some (.int .u16 ((S.getD i (0, 0)).1 : Nat)) ∧ w.cell? ⟨b, off + (i * 2 + 1), none⟩ = some (.int .u16 ((S.getD i (0, 0)).2 : Nat))) :
    Calls Yba.prog 7 #[.int .u64 ba, .int .u64 bb, .slice at0 L cap0, .slice at1 n cap1] w fun e w' => BuildPost ba bb L n l S w e w' := by
  have hmk := fun w => run_make_row' (P := Yba.prog) 32 21 (.int .i32 0) 4 Yba.underlying32 info21 rfl .i64 .i64 L (by omega) (by omega) w
  have HI : Hid (0 < L → ∃ b off, at0 = some ⟨b, off, none⟩ ∧ b < w.heap.size ∧ ∀ i, i < L → w.cell? ⟨b, off + i, none⟩ = some (.int .u16 (l.getD i 0 : Nat))) := hin
  have HX : Hid (∀ x ∈ l, x < 65536) := hx
  have HLl : Hid (l.length = L) := hl
  have HSl : Hid (S.length = n) := hS
  have HS16 : Hid (∀ x ∈ S, x.1 < 65536 ∧ x.2 < 65536) := hb16
  have HI1 : Hid (∃ b off, at1 = some ⟨b, off, none⟩ ∧ b < w.heap.size ∧ ∀ i, i < n → w.cell? ⟨b, off + i * 2, none⟩ = some (.int .u16 ((S.getD i (0, 0)).1 : Nat)) ∧ w.cell? ⟨b, off + (i * 2 + 1), none⟩ = some (.int .u16 ((S.getD i (0, 0)).2 : Nat))) := hin1
  clear hin hx hl hS hb16 hin1
  obtain ⟨A, hA⟩ : ∃ A : Nat, (ba : Int) % 2305843009213693951 = A := ⟨ba % 2305843009213693951, by omega⟩
  obtain ⟨Z, hZ⟩ : ∃ Z : Nat, (bb : Int) % 2305843009213693951 = Z := ⟨bb % 2305843009213693951, by omega⟩
  have lA : A < P61 := by unfold P61; omega
  have lZ : Z < P61 := by unfold P61; omega
  go_enter Yba.func7, Yba.ntmps7
  go_wp2
  have HAe0 : Hid ((ba : Int) % 2305843009213693951 = A ∧ (bb : Int) % 2305843009213693951 = Z) := ⟨hA, hZ⟩
  clear hmk hA hZ
  obtain ⟨W1, hW1⟩ : ∃ W1, W1 = ((w.alloc (.cells #[.pointer none, .slice none 0 0, .slice none 0 0, .slice none 0 0, .int .i64 0] 31)).alloc (.cells #[.int .u64 A, .int .u64 Z] 36)).alloc (.cells (madeCells #[.int .i32 0] L) 21) := ⟨_, rfl⟩
  rw [← hW1]
  obtain ⟨f0, f1, f2, f3⟩ := three_new w (.cells #[.pointer none, .slice none 0 0, .slice none 0 0, .slice none 0 0, .int .i64 0] 31) (.cells #[.int .u64 A, .int .u64 Z] 36) (.cells (madeCells #[.int .i32 0] L) 21)
  have HF0 : Hid (W1.heap[w.heap.size]? = some (.cells #[.pointer none, .slice none 0 0, .slice none 0 0, .slice none 0 0, .int .i64 0] 31 (0, 0))) := by rw [hW1]; exact f0
  have HF1 : Hid (W1.heap[w.heap.size + 1]? = some (.cells #[.int .u64 A, .int .u64 Z] 36 (0, 0))) := by rw [hW1]; exact f1
  have HF2 : Hid (W1.rowIs (w.heap.size + 1 + 1) 21 L (idF l 0)) := ⟨madeCells #[.int .i32 0] L, by rw [hW1]; exact f2, size_madeCells _ _, fun i hi => by simp [madeCells, hi, Nat.mod_one, idF]⟩
  have HF3 : Hid (Below w.heap.size w W1) := by rw [hW1]; exact ⟨f3.os, f3.tape, f3.output, f3.size, f3.block⟩
  have HF4 : Hid (W1.heap.size = w.heap.size + 1 + 1 + 1) := by rw [hW1]; show _ = _; simp
  clear f0 f1 f2 f3 hW1
  obtain ⟨ti, hti⟩ : ∃ ti, w.heap.size + 1 + 1 = ti := ⟨_, rfl⟩
  obtain ⟨bs, hbs⟩ : ∃ bs, w.heap.size + 1 = bs := ⟨_, rfl⟩
  have HTi : Hid (ti = w.heap.size + 2) := by show ti = _; omega
  have HBs : Hid (bs = w.heap.size + 1) := hbs.symm
  rw [hti] at HF2 HF4 ⊢
  rw [hbs] at HF1 ⊢
  clear hti hbs
  go_loopw [14] (fun i wr => ∃ k : Nat, k ≤ L ∧ i = .int .i64 k ∧ wr.rowIs ti 21 L (idF l k) ∧ Below ti W1 wr) (fun i _ => L - (intOf i).toNat)
  case atStart => exact ⟨0, Nat.zero_le _, rfl, HF2.out, Below.refl _ _⟩
  case round =>
    obtain ⟨k, hk, rfl, hrow, hbel⟩ := hrel
    have HR : Hid (wr.rowIs ti 21 L (idF l k)) := hrow
    have HB : Hid (Below ti W1 wr) := hbel
    have Hk : Hid (k ≤ L) := hk
    clear hrow hbel hk
    by_cases hlt : (k : Int) < L
    · obtain ⟨b, off, rfl, hb, hc⟩ := HI.out (by omega)
      have ck : wr.cell? ⟨b, off + k, none⟩ = some (.int .u16 (l.getD k 0 : Nat)) := ((HB.out.cell (by show b < ti; have := HTi.out; omega)).trans (HF3.out.cell (by exact hb))).trans (hc k (by omega))
      have gk : wr.cell? ⟨ti, k, none⟩ = some (idF l k k) := HR.out.cell (by omega)
      have fk := HR.out.frozen k
      have hv : l.getD k 0 < 65536 := by
        rw [List.getD_eq_getElem?_getD, List.getElem?_eq_getElem (by rw [HLl.out]; omega)]
        exact HX.out _ (List.getElem_mem _)
      have hstep := idF_step l k hv
      obtain ⟨v, hvv⟩ : ∃ v, v = l.getD k 0 := ⟨_, rfl⟩
      rw [← hvv] at ck hv hstep
      have HV : Hid (∀ j, idF l (k + 1) j = if j = k then .int .i32 (v : Nat) else idF l k j) := hstep
      clear hstep hvv hc
      go_wp2
      go_roundw
      case rel => exact ⟨k + 1, by omega, by go_num, (HR.out.set k _).congr (fun j _ => (HV.out j).symm), HB.out.setCell (Nat.le_refl _) _⟩
      case measure => simp [intOf]; omega
    · have e : k = L := by have := Hk.out; omega
      subst e
      obtain ⟨wa, hwa⟩ : ∃ wa, wa = wr := ⟨_, rfl⟩
      rw [← hwa] at HR HB ⊢
      clear hwa wr
      have hlt' := hlt
      clear hlt Hk
      have hmk := fun w => run_make_fp1 k (by omega) w
      have Hlt : Hid (¬ ((k : Int) < k)) := hlt'
      clear hlt'
      go_wp2
      clear hmk
      obtain ⟨W2, hW2⟩ : ∃ W2, W2 = wa.alloc (.cells (madeCells #[.int .u64 0, .int .u64 0] ((k + 1) * 2)) 36) := ⟨_, rfl⟩
      rw [← hW2]
      have HP0 : Hid (W2.rowIs wa.heap.size 36 ((k + 1) * 2) (fpF (pfQ A Z l 0))) := by rw [hW2, pfQ_zero]; exact fp_made wa (k + 1)
      have HB2 : Hid (Below wa.heap.size wa W2) := by rw [hW2]; exact (Below.refl _ _).alloc (Nat.le_refl _) _
      clear hW2
      obtain ⟨tp, htp⟩ : ∃ tp, wa.heap.size = tp := ⟨_, rfl⟩
      have HTp : Hid (ti < tp ∧ bs < tp ∧ w.heap.size < bs ∧ bs < ti) := ⟨by rw [← htp]; exact HR.out.lt, by have h1 := HR.out.lt; have h2 := HTi.out; have h3 := HBs.out; rw [← htp]; omega, by have h3 := HBs.out; omega, by have h2 := HTi.out; have h3 := HBs.out; omega⟩
      have HSz : Hid (wa.heap.size = tp) := htp
      rw [htp] at HP0 HB2 ⊢
      clear htp
      have HId : Hid (wa.rowIs ti 21 k (fun j => .int .i32 (l.getD j 0 : Nat))) := HR.out.congr (fun j hj => by simp [idF]; omega)
      have HBs2 : Hid (wa.heap[bs]? = some (.cells #[.int .u64 A, .int .u64 Z] 36 (0, 0))) := by rw [HB.out.block _ HTp.out.2.2.2]; exact HF1.out
      clear HR
      go_loopw [16] (fun i wr => ∃ p : Nat, p ≤ k ∧ i = .int .i64 p ∧ wr.rowIs tp 36 ((k + 1) * 2) (fpF (pfQ A Z l p)) ∧ Below tp wa wr) (fun i _ => k - (intOf i).toNat)
      case atStart => exact ⟨0, Nat.zero_le _, rfl, HP0.out, HB2.out⟩
      case round =>
        obtain ⟨p, hp, rfl, hrow, hbel⟩ := hrel
        have HR : Hid (wr.rowIs tp 36 ((k + 1) * 2) (fpF (pfQ A Z l p))) := hrow
        have HBr : Hid (Below tp wa wr) := hbel
        have Hp : Hid (p ≤ k) := hp
        clear hrow hbel hp
        by_cases hlt : (p : Int) < k
        · have c0 : wr.cell? ⟨bs, 0, none⟩ = some (.int .u64 A) := (HBr.out.cell (by exact HTp.out.2.1)).trans (cell_of_block HBs2.out 0)
          have c1 : wr.cell? ⟨bs, 1, none⟩ = some (.int .u64 Z) := (HBr.out.cell (by exact HTp.out.2.1)).trans (cell_of_block HBs2.out 1)
          have ci : wr.cell? ⟨ti, p, none⟩ = some (.int .i32 (l.getD p 0 : Nat)) := (HBr.out.cell (by exact HTp.out.1)).trans (HId.out.cell (by omega))
          have p0 := fp_cellA HR.out (k := p) (by omega)
          have p1 := fp_cellB HR.out (k := p) (by omega)
          have e0 : pfQ A Z l p p = (pf A l p, pf Z l p) := by simp [pfQ]
          rw [e0] at p0 p1
          dsimp only at p0 p1
          have hv : l.getD p 0 < 65536 := by
            rw [List.getD_eq_getElem?_getD, List.getElem?_eq_getElem (by rw [HLl.out]; omega)]
            exact HX.out _ (List.getElem_mem _)
          obtain ⟨v, hvv⟩ : ∃ v, v = l.getD p 0 := ⟨_, rfl⟩
          rw [← hvv] at ci hv
          have HV : Hid (v = l.getD p 0) := hvv
          have hw : IntKind.i64.wrap ((p : Int) + 1) = p + 1 := by rw [IntKind.wrap_i64]; omega
          have i0 : (0 : Int) ≤ p := by omega
          have i1 : (p : Int) < (k : Int) + 1 := by omega
          have i2 : (0 : Int) ≤ (p : Int) + 1 := by omega
          have i3 : (p : Int) + 1 < (k : Int) + 1 := by omega
          have HS5 : Hid (wr.cell? ⟨bs, 0, none⟩ = some (.int .u64 A) ∧ wr.cell? ⟨bs, 1, none⟩ = some (.int .u64 Z) ∧ wr.cell? ⟨tp, p * 2, none⟩ = some (.int .u64 (pf A l p : Nat)) ∧ wr.cell? ⟨tp, p * 2 + 1, none⟩ = some (.int .u64 (pf Z l p : Nat)) ∧ wr.cell? ⟨ti, p, none⟩ = some (.int .i32 (v : Nat))) := ⟨c0, c1, p0, p1, ci⟩
          have HLt : Hid (bs < wr.heap.size ∧ tp < wr.heap.size ∧ ti < wr.heap.size) := by have := HR.out.lt; have := HTp.out; exact ⟨by omega, by omega, by omega⟩
          clear hvv e0
          go_wp2
          go_region_held3 (fun w' => w'.cell? ⟨bs, 0, none⟩ = some (.int .u64 A) ∧ w'.cell? ⟨bs, 1, none⟩ = some (.int .u64 Z) ∧ w'.cell? ⟨tp, p * 2, none⟩ = some (.int .u64 (pf A l p : Nat)) ∧ w'.cell? ⟨tp, p * 2 + 1, none⟩ = some (.int .u64 (pf Z l p : Nat)) ∧ w'.cell? ⟨ti, p, none⟩ = some (.int .i32 (v : Nat)))
            (first | exact HS5.out | exact keep_b5 hb5 HLt.out HS5.out | exact keep_s5 HTp.out (keep_b5 hb5 HLt.out HS5.out))
            (first
              | (go_at_call 9; refine (step_any A Z _ _ v _ lA lZ (pf_lt _ _ _) (pf_lt _ _ _) hv).mono ?_; rintro e w5 ⟨rfl, hb5⟩; obtain ⟨s0, s1, s2, s3⟩ := tp_room hb5 HR.out (show p + 1 < k + 1 by omega)))
          have HR5 : Hid (w5.rowIs tp 36 ((k + 1) * 2) (fpF (pfQ A Z l p))) := tp_row hb5 HR.out
          have HB5 : Hid (Below tp wa w5) := HBr.out.drew.trans (hb5.mono (by have := HLt.out; show tp ≤ wr.heap.size; omega))
          clear hb5 s0 s1 s2 s3 c0 c1 p0 p1 ci
          go_wp2
          go_roundw
          case rel =>
            refine ⟨p + 1, by omega, by go_num, (fp_store HR5.out).congr (fun j _ => ?_), (HB5.out.setCell (Nat.le_refl _) _).setCell (Nat.le_refl _) _⟩
            rw [pfQ_succ A Z l p (by rw [HLl.out]; omega), ← HV.out]
          case measure => simp [intOf]; omega
        · have e : p = k := by have := Hp.out; omega
          subst e
          obtain ⟨wb, hwb⟩ : ∃ wb, wb = wr := ⟨_, rfl⟩
          rw [← hwb] at HR HBr ⊢
          clear hwb wr
          clear hlt Hp
          have HTpR : Hid (wb.rowIs tp 36 ((p + 1) * 2) (fpF (fun j => (pf A l j, pf Z l j)))) := HR.out.congr (fun j hj => fpF_congr (N := p + 1) (fun i hi => by simp [pfQ]; omega) j hj)
          have hmS := fun w => run_make_sp n (by omega) w
          have hmA := fun w => run_make_at n (by omega) w
          have hmP := fun w => run_make_pr n (by omega) w
          go_wp2
          clear hmS hmA hmP
          obtain ⟨W3, hW3⟩ : ∃ W3, W3 = ((((wb.alloc (.cells (madeCells #[.int .i64 0, .int .i64 0] (n * 2)) 52)).alloc (.cells (madeCells #[.int .i64 0] n) 3)).alloc (.cells (madeCells #[.int .u64 0, .int .u64 0] (n * 2)) 36)).alloc (.cells #[] 21)).alloc (.cells #[.int .u64 0, .int .u64 0] 36) := ⟨_, rfl⟩
          rw [← hW3]
          have hst := St.start wb n (by omega)
          rw [Nat.mul_one, ← hW3] at hst
          have HSt0 : Hid (St wb wb.heap.size n wb.heap.size (wb.heap.size + 1) (wb.heap.size + 1 + 1) [] [] [] [] [.int .u64 0, .int .u64 0] 0 0 0 (wb.heap.size + 1 + 1 + 1) 0 0 (wb.heap.size + 1 + 1 + 1 + 1) 1 1 W3) := hst
          clear hst hW3
          obtain ⟨gr0, h4⟩ : ∃ x, wb.heap.size + 1 + 1 + 1 + 1 = x := ⟨_, rfl⟩
          rw [h4] at HSt0 ⊢
          obtain ⟨gf0, h3⟩ : ∃ x, wb.heap.size + 1 + 1 + 1 = x := ⟨_, rfl⟩
          rw [h3] at HSt0 ⊢
          obtain ⟨gp, h2⟩ : ∃ x, wb.heap.size + 1 + 1 = x := ⟨_, rfl⟩
          rw [h2] at HSt0 ⊢
          obtain ⟨ga, h1⟩ : ∃ x, wb.heap.size + 1 = x := ⟨_, rfl⟩
          rw [h1] at HSt0 ⊢
          obtain ⟨gs, h0⟩ : ∃ x, wb.heap.size = x := ⟨_, rfl⟩
          have HH : Hid (wb.heap.size = gs) := h0
          rw [h0] at HSt0 ⊢
          clear h0 h1 h2 h3 h4
          have HTpLt : Hid (tp < gs) := by have := HR.out.lt; have := HH.out; show tp < gs; omega
          have HL : Hid ((p : Int) ≤ 1024) := hL
          have Hn : Hid ((n : Int) ≤ 256) := hn
          clear HR HP0 HB2 hL hn
          go_loopw [17, 18, 19, 20, 21, 22, 23] (fun v17 v18 v19 v20 v21 v22 v23 wr => ∃ j gf cf gr cr : Nat, j ≤ n ∧ v17 = .slice (some ⟨gs, 0, none⟩) j n ∧ v18 = .slice (some ⟨ga, 0, none⟩) j n ∧ v19 = .slice (some ⟨gp, 0, none⟩) j n ∧ v20 = .slice (some ⟨gf, 0, none⟩) (spA p S l j) cf ∧ v21 = .slice (some ⟨gr, 0, none⟩) (spA p S l j + 1) cr ∧ v22 = .int .i64 (spA p S l j : Nat) ∧ v23 = .int .i64 j ∧
              St wb gs n gs ga gp (spCells p S j) (atCells p S l j) (preCells A Z p S l j) (idCells (flTo p S l j)) (runCells A Z (flTo p S l j)) j j j gf (spA p S l j) cf gr (spA p S l j + 1) cr wr) (fun _ _ _ _ _ _ i _ => n - (intOf i).toNat)
          case atStart => exact ⟨0, gf0, 0, gr0, 1, Nat.zero_le _, rfl, rfl, rfl, rfl, rfl, rfl, rfl, HSt0.out⟩
          case round =>
            obtain ⟨j, gf, cf, gr, cr, hj, rfl, rfl, rfl, rfl, rfl, rfl, rfl, hst⟩ := hrel
            have HSt : Hid (St wb gs n gs ga gp (spCells p S j) (atCells p S l j) (preCells A Z p S l j) (idCells (flTo p S l j)) (runCells A Z (flTo p S l j)) j j j gf (spA p S l j) cf gr (spA p S l j + 1) cr wr) := hst
            have Hj : Hid (j ≤ n) := hj
            clear hst hj
            by_cases hlt : (j : Int) < n
            · obtain ⟨b, off, rfl, hb, hc⟩ := HI1.out
              have hbs : b < gs := by have h1 := HTp.out; have h2 := HTpLt.out; omega
              have hold : ∀ o, wr.cell? ⟨b, o, none⟩ = w.cell? ⟨b, o, none⟩ := fun o => (((HSt.out.bel.cell (p := ⟨b, o, none⟩) hbs).trans (HBr.out.cell (p := ⟨b, o, none⟩) (by show b < tp; have h1 := HTp.out; omega))).trans (HB.out.cell (p := ⟨b, o, none⟩) (by show b < ti; have h1 := HTp.out; omega))).trans (HF3.out.cell (p := ⟨b, o, none⟩) hb)
              have cx := (hold _).trans (hc j (by omega)).1
              have cy := (hold _).trans (hc j (by omega)).2
              rw [← Nat.add_assoc] at cy
              clear hold hc
              have hxy : (S.getD j (0, 0)).1 < 65536 ∧ (S.getD j (0, 0)).2 < 65536 := by
                have : S.getD j (0, 0) ∈ S := by
                  rw [List.getD_eq_getElem?_getD, List.getElem?_eq_getElem (by rw [HSl.out]; omega)]
                  exact List.getElem_mem _
                exact HS16.out _ this
              have hFe : spF p S j = min ((S.getD j (0, 0)).1 % (p + 1)) ((S.getD j (0, 0)).2 % (p + 1)) := rfl
              have hTe : spT p S j = max ((S.getD j (0, 0)).1 % (p + 1)) ((S.getD j (0, 0)).2 % (p + 1)) := rfl
              obtain ⟨x, hx⟩ : ∃ x, x = (S.getD j (0, 0)).1 := ⟨_, rfl⟩
              obtain ⟨y, hy⟩ : ∃ y, y = (S.getD j (0, 0)).2 := ⟨_, rfl⟩
              rw [← hx] at cx hxy hFe hTe
              rw [← hy] at cy hxy hFe hTe
              obtain ⟨fx, hfx⟩ : ∃ fx, fx = x % (p + 1) := ⟨_, rfl⟩
              obtain ⟨ty, hty⟩ : ∃ ty, ty = y % (p + 1) := ⟨_, rfl⟩
              rw [← hfx, ← hty] at hFe hTe
              have bfx : fx ≤ p := by have := Nat.mod_lt x (show 0 < p + 1 by omega); omega
              have bty : ty ≤ p := by have := Nat.mod_lt y (show 0 < p + 1 by omega); omega
              have rx : (x : Int) % ((p : Int) + 1) = fx := by rw [show ((p : Int) + 1) = ((p + 1 : Nat) : Int) from rfl, ← Int.natCast_emod, ← hfx]
              have ry : (y : Int) % ((p : Int) + 1) = ty := by rw [show ((p : Int) + 1) = ((p + 1 : Nat) : Int) from rfl, ← Int.natCast_emod, ← hty]
              have q1 : (fx : Int) ≤ 1024 := by have := HL.out; omega
              have q2 : (ty : Int) ≤ 1024 := by have := HL.out; omega
              have q3 : (p : Int) ≤ 1024 := HL.out
              have q4 : (n : Int) ≤ 256 := Hn.out
              have q5 : (x : Int) < 65536 := by omega
              have q6 : (y : Int) < 65536 := by omega
              have HFe : Hid (spF p S j = min fx ty) := hFe
              have HTe : Hid (spT p S j = max fx ty) := hTe
              have HAj : Hid (spA p S l j ≤ j * 1024) := spA_le p S l HLl.out (by have := HL.out; omega) j
              obtain ⟨aj, haj⟩ : ∃ aj, aj = spA p S l j := ⟨_, rfl⟩
              rw [← haj] at HSt HAj ⊢
              have HAe : Hid (aj = spA p S l j) := haj
              have q7 : (aj : Int) ≤ 262144 := by have := HAj.out; omega
              clear hx hy hfx hty hFe hTe hxy haj bfx bty hb hbs
              obtain ⟨i52, hi52, hz52, hs52, hb52⟩ := info_parts info52
              obtain ⟨i3, hi3, hz3, hs3, hb3⟩ := info_parts info3
              obtain ⟨i36, hi36, hz36, hs36, hb36⟩ := info_parts info36
              obtain ⟨i21, hi21, hz21, hs21, hb21⟩ := info_parts info21
              by_cases hsw : (ty : Int) < fx
              · go_upto_region 26 with fail
                simp only [rx, ry]
                have HFs : Hid (spF p S j = ty) := by have := HFe.out; show spF p S j = ty; omega
                have HTs : Hid (spT p S j = fx) := by have := HTe.out; show spT p S j = fx; omega
                have q8 : (ty : Int) ≤ fx := by omega
                have q9 : (fx : Int) ≤ p := by have h := spT_le p S j; rw [HTs.out] at h; omega
                clear rx ry cx cy q5 q6
                have z0 := own_cell HSt.out.R (runCells_get A Z (flTo p S l j) aj (by rw [HAe.out]; exact Nat.le_refl _)).1
                have z1 := own_cell HSt.out.R (runCells_get A Z (flTo p S l j) aj (by rw [HAe.out]; exact Nat.le_refl _)).2
                rw [show aj = (flTo p S l j).length from HAe.out, pf_all] at z0 z1
                rw [show (flTo p S l j).length = aj from HAe.out.symm] at z0 z1
                have HZ : Hid (wr.cell? ⟨gr, aj * 2, none⟩ = some (.int .u64 (hz A 0 (flTo p S l j) : Nat)) ∧ wr.cell? ⟨gr, aj * 2 + 1, none⟩ = some (.int .u64 (hz Z 0 (flTo p S l j) : Nat))) := ⟨z0, z1⟩
                clear z0 z1
                go_wp2_with (first
                  | (at_builtin; refine wpList_append_fits _ rfl (.tmp 113) (.tmp 117) 27 rfl 0 52 i52 2 Yba.underlying27 hi52 hs52 gs j n (spCells p S j) rfl (by exact (HSt.out.grow ((Below.refl _ _).alloc (Nat.le_refl _) _)).S) ⟨wr.heap.size, 0, none⟩ 1 1 [.int .i64 (ty : Nat), .int .i64 (fx : Nat)] rfl rfl (by exact World.news_of_block (heap_alloc_new _ _)) (by intro u hu; simp at hu; rcases hu with rfl | rfl <;> rfl) (by omega) ?_; intro w5 ho5 hg5; have HSt5 : Hid _ := St.appS (HSt.out.grow ((Below.refl _ _).alloc (Nat.le_refl _) _)) ho5 hg5; clear ho5 hg5)
                  | (at_builtin; refine wpList_append_fits _ rfl (.tmp 119) (.tmp 121) 28 rfl 0 3 i3 1 Yba.underlying28 hi3 hs3 ga j n (atCells p S l j) rfl (by exact (HSt5.out.grow ((Below.refl _ _).alloc (Nat.le_refl _) _)).A) ⟨w5.heap.size, 0, none⟩ 1 1 [.int .i64 (aj : Nat)] rfl rfl (by exact World.news_of_block (heap_alloc_new _ _)) (by intro u hu; simp at hu; subst hu; rfl) (by omega) ?_; intro w6 ho6 hg6; have HSt6 : Hid _ := St.appA (HSt5.out.grow ((Below.refl _ _).alloc (Nat.le_refl _) _)) ho6 hg6; have z0 := own_cell HSt6.out.R (runCells_get A Z (flTo p S l j) (flTo p S l j).length (Nat.le_refl _)).1; have z1 := own_cell HSt6.out.R (runCells_get A Z (flTo p S l j) (flTo p S l j).length (Nat.le_refl _)).2; rw [pf_all, show (flTo p S l j).length = aj from HAe.out.symm] at z0 z1; clear ho6 hg6)
                  | (at_builtin; refine wpList_append_fits _ rfl (.tmp 123) (.tmp 128) 29 rfl 0 36 i36 2 Yba.underlying29 hi36 hs36 gp j n (preCells A Z p S l j) rfl (by exact (HSt6.out.grow ((Below.refl _ _).alloc (Nat.le_refl _) _)).P) ⟨w6.heap.size, 0, none⟩ 1 1 [.int .u64 (hz A 0 (flTo p S l j) : Nat), .int .u64 (hz Z 0 (flTo p S l j) : Nat)] rfl rfl (by exact World.news_of_block (heap_alloc_new _ _)) (by intro u hu; simp at hu; rcases hu with rfl | rfl <;> rfl) (by omega) ?_; intro w7 ho7 hg7; have HSt7 : Hid _ := St.appP (HSt6.out.grow ((Below.refl _ _).alloc (Nat.le_refl _) _)) ho7 hg7; clear ho7 hg7 z0 z1))
                have hst7 := HSt7.out
                rw [show spCells p S j ++ [.int .i64 (ty : Nat), .int .i64 (fx : Nat)] = spCells p S (j + 1) by show _ = spCells p S j ++ _; rw [HFs.out, HTs.out], show atCells p S l j ++ [.int .i64 (aj : Nat)] = atCells p S l (j + 1) by show _ = atCells p S l j ++ _; rw [← HAe.out],
                  show preCells A Z p S l j ++ [.int .u64 (hz A 0 (flTo p S l j) : Nat), .int .u64 (hz Z 0 (flTo p S l j) : Nat)] = preCells A Z p S l (j + 1) from rfl] at hst7
                have HSt8 : Hid (St wb gs n gs ga gp (spCells p S (j + 1)) (atCells p S l (j + 1)) (preCells A Z p S l (j + 1)) (idCells (flTo p S l j ++ (l.drop ty).take 0)) (runCells A Z (flTo p S l j ++ (l.drop ty).take 0)) (j + 1) (j + 1) (j + 1) gf (aj + (ty - ty)) cf gr (aj + (ty - ty) + 1) cr w7) := by
                  show St _ _ _ _ _ _ _ _ _ _ _ _ _ _ _ _ _ _ _ _ _
                  rw [Nat.sub_self, List.take_zero, List.append_nil]; exact hst7
                have HFT : Hid (ty ≤ fx ∧ fx ≤ p) := ⟨by omega, by omega⟩
                have HSl2 : Hid (∀ k, k < p → l.getD k 0 < 65536) := fun k hk => by
                  rw [List.getD_eq_getElem?_getD, List.getElem?_eq_getElem (by rw [HLl.out]; omega)]
                  exact HX.out _ (List.getElem_mem _)
                clear hst7 HSt7 HSt5 HSt6 HZ hsw q8 q9
                go_loopw [20, 21, 26] (fun v20 v21 v26 wi => ∃ i gf cf gr cr : Nat, ty ≤ i ∧ i ≤ fx ∧ v20 = .slice (some ⟨gf, 0, none⟩) (aj + (i - ty)) cf ∧ v21 = .slice (some ⟨gr, 0, none⟩) (aj + (i - ty) + 1) cr ∧ v26 = .int .i64 i ∧
                    St wb gs n gs ga gp (spCells p S (j + 1)) (atCells p S l (j + 1)) (preCells A Z p S l (j + 1)) (idCells (flTo p S l j ++ (l.drop ty).take (i - ty))) (runCells A Z (flTo p S l j ++ (l.drop ty).take (i - ty))) (j + 1) (j + 1) (j + 1) gf (aj + (i - ty)) cf gr (aj + (i - ty) + 1) cr wi) (fun _ _ i _ => fx - (intOf i).toNat)
                case atStart => exact ⟨ty, gf, cf, gr, cr, Nat.le_refl _, HFT.out.1, by rw [Nat.sub_self]; rfl, by rw [Nat.sub_self], rfl, by rw [show (l.drop ty).take (ty - ty) = (l.drop ty).take 0 by rw [Nat.sub_self]]; exact HSt8.out⟩
                case round =>
                  clear HSt8
                  obtain ⟨i, gf, cf, gr, cr, hi1, hi2, rfl, rfl, rfl, hst⟩ := hrel
                  have Hi : Hid (ty ≤ i ∧ i ≤ fx) := ⟨hi1, hi2⟩
                  clear hi1 hi2
                  obtain ⟨m, hm⟩ : ∃ m, m = aj + (i - ty) := ⟨_, rfl⟩
                  obtain ⟨FL, hFL⟩ : ∃ FL, FL = flTo p S l j ++ (l.drop ty).take (i - ty) := ⟨_, rfl⟩
                  rw [← hm, ← hFL] at hst
                  rw [← hm]
                  have hmlen : FL.length = m := by
                    have h1 := Hi.out
                    have h2 := HFT.out
                    rw [hFL, hm, List.length_append, List.length_take, List.length_drop, HLl.out, show (flTo p S l j).length = aj from HAe.out.symm]; omega
                  have HSti : Hid (St wb gs n gs ga gp (spCells p S (j + 1)) (atCells p S l (j + 1)) (preCells A Z p S l (j + 1)) (idCells FL) (runCells A Z FL) (j + 1) (j + 1) (j + 1) gf m cf gr (m + 1) cr wr) := hst
                  have Hm : Hid (m = aj + (i - ty)) := hm
                  have HFL : Hid (FL = flTo p S l j ++ (l.drop ty).take (i - ty)) := hFL
                  have Hmlen : Hid (FL.length = m) := hmlen
                  clear hst hm hFL hmlen
                  by_cases hlt2 : (i : Int) < fx
                  · have hip : i < p := by have h2 := HFT.out; omega
                    have hwr : ∀ b o, b < tp + 1 → wr.cell? ⟨b, o, none⟩ = wb.cell? ⟨b, o, none⟩ := fun b o hb => HSti.out.bel.cell (p := ⟨b, o, none⟩) (by show b < gs; have := HTpLt.out; omega)
                    have ci : wr.cell? ⟨ti, i, none⟩ = some (.int .i32 (l.getD i 0 : Nat)) := ((hwr ti i (by have := HTp.out; omega)).trans (HBr.out.cell (by exact HTp.out.1))).trans (HId.out.cell hip)
                    have c0 : wr.cell? ⟨bs, 0, none⟩ = some (.int .u64 A) := ((hwr bs 0 (by have := HTp.out; omega)).trans (HBr.out.cell (by exact HTp.out.2.1))).trans (cell_of_block HBs2.out 0)
                    have c1 : wr.cell? ⟨bs, 1, none⟩ = some (.int .u64 Z) := ((hwr bs 1 (by have := HTp.out; omega)).trans (HBr.out.cell (by exact HTp.out.2.1))).trans (cell_of_block HBs2.out 1)
                    have hv := HSl2.out i hip
                    obtain ⟨v, hvv⟩ : ∃ v, v = l.getD i 0 := ⟨_, rfl⟩
                    rw [← hvv] at ci hv
                    have HV : Hid (v = l.getD i 0) := hvv
                    have j0 : (0 : Int) ≤ i := by omega
                    have j1 : (i : Int) < p := by omega
                    have j2 : (m : Int) ≤ 263168 := by have h1 := Hm.out; have h2 := HFT.out; have h3 := Hi.out; omega
                    have HC : Hid (wr.cell? ⟨bs, 0, none⟩ = some (.int .u64 A) ∧ wr.cell? ⟨bs, 1, none⟩ = some (.int .u64 Z) ∧ wr.cell? ⟨ti, i, none⟩ = some (.int .i32 (v : Nat))) := ⟨c0, c1, ci⟩
                    clear hvv hwr hip c0 c1
                    go_upto_region 33 with (at_builtin; refine wpList_append_lies _ rfl (.tmp 136) (.tmp 141) 32 rfl 0 21 i21 (.int .i32 0) 1 4 Yba.underlying32 hi21 hz21 hs21 hb21 rfl (by decide) (.slice (some ⟨gf, 0, none⟩) m cf) m (idCells FL) (by rfl) (by exact (HSti.out.grow ((Below.refl _ _).alloc (Nat.le_refl _) _)).F) ⟨wr.heap.size, 0, none⟩ 1 1 [.int .i32 (v : Nat)] (by rfl) (by rfl) (by exact World.news_of_block (heap_alloc_new _ _)) (by intro u hu; simp at hu; subst hu; rfl) (by omega) (by unfold maxLen; omega) (by omega) (Nat.zero_le _) _ rfl ?_; intro gf2 cf2 w8 ho8 hg8 hat8 hlt8; have HSt8 : Hid _ := St.appF (HSti.out.grow ((Below.refl _ _).alloc (Nat.le_refl _) _)) ho8 hg8 hat8; have HBl8 : Hid _ := below_grown hg8 (show tp + 1 ≤ gf by have h1 := HSti.out.ord; have h2 := HTpLt.out; omega) (show tp + 1 ≤ (wr.alloc (.cells #[.int .i32 (v : Nat)] 21)).heap.size by have h1 := own_lt HSti.out.S; have h2 := HTpLt.out; simp; omega); clear ho8 hg8 hat8 hlt8)
                    have h8 : ∀ b o, b < tp + 1 → w8.cell? ⟨b, o, none⟩ = wr.cell? ⟨b, o, none⟩ := fun b o hb => (HBl8.out.cell (p := ⟨b, o, none⟩) hb).trans (World.cell?_alloc_past _ _ _ (by have h1 := own_lt HSti.out.S; have h2 := HTpLt.out; omega))
                    have d0 := (h8 bs 0 (by have := HTp.out; omega)).trans HC.out.1
                    have d1 := (h8 bs 1 (by have := HTp.out; omega)).trans HC.out.2.1
                    have d2 := (h8 ti i (by have := HTp.out; omega)).trans HC.out.2.2
                    have z0 := own_cell HSt8.out.R (runCells_get A Z FL FL.length (Nat.le_refl _)).1
                    have z1 := own_cell HSt8.out.R (runCells_get A Z FL FL.length (Nat.le_refl _)).2
                    rw [pf_all, Hmlen.out] at z0 z1
                    have HD : Hid (w8.cell? ⟨bs, 0, none⟩ = some (.int .u64 A) ∧ w8.cell? ⟨bs, 1, none⟩ = some (.int .u64 Z) ∧ w8.cell? ⟨gr, m * 2, none⟩ = some (.int .u64 (hz A 0 FL : Nat)) ∧ w8.cell? ⟨gr, m * 2 + 1, none⟩ = some (.int .u64 (hz Z 0 FL : Nat)) ∧ w8.cell? ⟨ti, i, none⟩ = some (.int .i32 (v : Nat))) := ⟨d0, d1, z0, z1, d2⟩
                    have HLt8 : Hid (bs < w8.heap.size ∧ gr < w8.heap.size ∧ ti < w8.heap.size) := by have h1 := own_lt HSt8.out.R; have h2 := own_lt HSt8.out.S; have h3 := HTpLt.out; have h4 := HTp.out; exact ⟨by omega, h1, by omega⟩
                    have ww : IntKind.i64.wrap ((m : Int) + 1 - 1) = m := by rw [IntKind.wrap_i64]; omega
                    have wv : IntKind.i64.wrap (m : Int) = m := by rw [IntKind.wrap_i64]; omega
                    have m0 : (0 : Int) ≤ m := by omega
                    have m1 : (m : Int) < (m : Int) + 1 := by omega
                    have lh1 := hz0_lt A FL
                    have lh2 := hz0_lt Z FL
                    clear h8 d0 d1 d2 z0 z1 ci
                    refine wp_region_noPanic ?_
                    refine wp_region_G (fun w' => w'.cell? ⟨bs, 0, none⟩ = some (.int .u64 A) ∧ w'.cell? ⟨bs, 1, none⟩ = some (.int .u64 Z) ∧ w'.cell? ⟨gr, m * 2, none⟩ = some (.int .u64 (hz A 0 FL : Nat)) ∧ w'.cell? ⟨gr, m * 2 + 1, none⟩ = some (.int .u64 (hz Z 0 FL : Nat)) ∧ w'.cell? ⟨ti, i, none⟩ = some (.int .i32 (v : Nat))) 14 (by kernel_rfl) HD.out (fun hHeld => ?_)
                    refine anyG_take (i := 0) 9 (v := ?_) rfl (by kernel_rfl) (by kernel_rfl) (by kernel_rfl) (by kernel_rfl) (by kernel_rfl) (fun _ _ _ h => h) (Or.inl ⟨by rfl, ?_⟩) (by assumption) ?_
                    rotate_left
                    · (intro w hSw; (try dsimp only at hSw); go_simp; all_goals (with_reducible rfl))
                    try simp only [Act.put, List.setIfInBounds_toArray, List.set_cons_zero, List.set_cons_succ]
                    refine anyG_take (i := 1) 9 (v := ?_) rfl (by kernel_rfl) (by kernel_rfl) (by kernel_rfl) (by kernel_rfl) (by kernel_rfl) (fun _ _ _ h => h) (Or.inl ⟨by rfl, ?_⟩) (by assumption) ?_
                    rotate_left
                    · (intro w hSw; (try dsimp only at hSw); go_simp; all_goals (with_reducible rfl))
                    try simp only [Act.put, List.setIfInBounds_toArray, List.set_cons_zero, List.set_cons_succ]
                    refine anyG_take (i := 2) 9 (v := ?_) rfl (by kernel_rfl) (by kernel_rfl) (by kernel_rfl) (by kernel_rfl) (by kernel_rfl) (fun _ _ _ h => h) (Or.inl ⟨by rfl, ?_⟩) (by assumption) ?_
                    rotate_left
                    · (intro w hSw; (try dsimp only at hSw); go_simp; all_goals (with_reducible rfl))
                    try simp only [Act.put, List.setIfInBounds_toArray, List.set_cons_zero, List.set_cons_succ]
                    refine anyG_take (i := 3) 9 (v := ?_) rfl (by kernel_rfl) (by kernel_rfl) (by kernel_rfl) (by kernel_rfl) (by kernel_rfl) (fun _ _ _ h => h) (Or.inl ⟨by rfl, ?_⟩) (by assumption) ?_
                    rotate_left
                    · (intro w hSw; (try dsimp only at hSw); go_simp; all_goals (with_reducible rfl))
                    try simp only [Act.put, List.setIfInBounds_toArray, List.set_cons_zero, List.set_cons_succ]
                    refine anyG_take (i := 4) 9 (v := ?_) rfl (by kernel_rfl) (by kernel_rfl) (by kernel_rfl) (by kernel_rfl) (by kernel_rfl) (fun _ _ _ h => h) (Or.inl ⟨by rfl, ?_⟩) (by assumption) ?_
                    rotate_left
                    · (intro w hSw; (try dsimp only at hSw); go_simp; all_goals (with_reducible rfl))
                    try simp only [Act.put, List.setIfInBounds_toArray, List.set_cons_zero, List.set_cons_succ]
                    refine anyG_take (i := 5) 9 (v := ?_) rfl (by kernel_rfl) (by kernel_rfl) (by kernel_rfl) (by kernel_rfl) (by kernel_rfl) (fun _ _ _ h => h) (Or.inl ⟨by rfl, ?_⟩) (by assumption) ?_
                    rotate_left
                    · (intro w hSw; (try dsimp only at hSw); go_simp; all_goals (with_reducible rfl))
                    try simp only [Act.put, List.setIfInBounds_toArray, List.set_cons_zero, List.set_cons_succ]
                    refine anyG_take (i := 6) 9 (v := ?_) rfl (by kernel_rfl) (by kernel_rfl) (by kernel_rfl) (by kernel_rfl) (by kernel_rfl) (fun _ _ _ h => h) (Or.inl ⟨by rfl, ?_⟩) (by assumption) ?_
                    rotate_left
                    · (intro w hSw; (try dsimp only at hSw); go_simp; all_goals (with_reducible rfl))
                    try simp only [Act.put, List.setIfInBounds_toArray, List.set_cons_zero, List.set_cons_succ]
                    refine anyG_take (i := 7) 9 (v := ?_) rfl (by kernel_rfl) (by kernel_rfl) (by kernel_rfl) (by kernel_rfl) (by kernel_rfl) (fun _ _ _ h => h) (Or.inl ⟨by rfl, ?_⟩) (by assumption) ?_
                    rotate_left
                    · (intro w hSw; (try dsimp only at hSw); go_simp; all_goals (with_reducible rfl))
                    try simp only [Act.put, List.setIfInBounds_toArray, List.set_cons_zero, List.set_cons_succ]
                    refine anyG_take (i := 8) 9 (v := ?_) rfl (by kernel_rfl) (by kernel_rfl) (by kernel_rfl) (by kernel_rfl) (by kernel_rfl) (fun _ _ _ h => h) (Or.inl ⟨by rfl, ?_⟩) (by assumption) ?_
                    rotate_left
                    · (intro w hSw; (try dsimp only at hSw); go_simp; all_goals (with_reducible rfl))
                    try simp only [Act.put, List.setIfInBounds_toArray, List.set_cons_zero, List.set_cons_succ]
                    refine anyG_take (i := 9) 9 (v := ?_) rfl (by kernel_rfl) (by kernel_rfl) (by kernel_rfl) (by kernel_rfl) (by kernel_rfl) (fun _ _ _ h => h) (Or.inl ⟨by rfl, ?_⟩) (by assumption) ?_
                    rotate_left
                    · (intro w hSw; (try dsimp only at hSw); go_simp; all_goals (with_reducible rfl))
                    try simp only [Act.put, List.setIfInBounds_toArray, List.set_cons_zero, List.set_cons_succ]
                    refine anyG_take (i := 10) 9 (v := ?_) rfl (by kernel_rfl) (by kernel_rfl) (by kernel_rfl) (by kernel_rfl) (by kernel_rfl) (fun _ _ _ h => h) (Or.inl ⟨by rfl, ?_⟩) (by assumption) ?_
                    rotate_left
                    · (intro w hSw; (try dsimp only at hSw); go_simp; all_goals (with_reducible rfl))
                    try simp only [Act.put, List.setIfInBounds_toArray, List.set_cons_zero, List.set_cons_succ]
                    refine anyG_take (i := 11) 9 (v := ?_) rfl (by kernel_rfl) (by kernel_rfl) (by kernel_rfl) (by kernel_rfl) (by kernel_rfl) (fun _ _ _ h => h) (Or.inl ⟨by rfl, ?_⟩) (by assumption) ?_
                    rotate_left
                    · (intro w hSw; (try dsimp only at hSw); go_simp; all_goals (with_reducible rfl))
                    try simp only [Act.put, List.setIfInBounds_toArray, List.set_cons_zero, List.set_cons_succ]
                    refine anyG_one (i := 12) rfl (by kernel_rfl) (fun K hK => ?_)
                    go_simp
                    refine (step_any A Z _ _ v _ lA lZ lh1 lh2 hv).mono ?_
                    rintro e w9 ⟨rfl, hb9⟩
                    dsimp only
                    have HD9 : Hid (w9.cell? ⟨bs, 0, none⟩ = some (.int .u64 A) ∧ w9.cell? ⟨bs, 1, none⟩ = some (.int .u64 Z) ∧ w9.cell? ⟨gr, m * 2, none⟩ = some (.int .u64 (hz A 0 FL : Nat)) ∧ w9.cell? ⟨gr, m * 2 + 1, none⟩ = some (.int .u64 (hz Z 0 FL : Nat)) ∧ w9.cell? ⟨ti, i, none⟩ = some (.int .i32 (v : Nat))) := keep_b5 hb9 HLt8.out HD.out
                    have HSt9 : Hid _ := (HSt8.out.grow ((Below.refl _ _).drew)).grow hb9
                    have HLt9 : Hid (bs < w9.heap.size ∧ gr < w9.heap.size ∧ ti < w9.heap.size) := by have h1 := HLt8.out; have h2 : w8.heap.size ≤ w9.heap.size := hb9.size; exact ⟨by omega, by omega, by omega⟩
                    refine hK.out _ _ (fun _ => HD9.out) (fun _ => ?_)
                    clear hK K hHeld hb9
                    try simp only [Act.put, List.setIfInBounds_toArray, List.set_cons_zero, List.set_cons_succ]
                    refine anyG_one (i := 13) rfl (by kernel_rfl) (fun K hK => ?_)
                    go_simp
                    refine hK.out _ _ (fun _ => keep_a5 HLt9.out HD9.out) (fun _ => ?_)
                    clear hK K
                    try simp only [Act.put, List.setIfInBounds_toArray, List.set_cons_zero, List.set_cons_succ]
                    refine anyG_one (i := 14) rfl (by kernel_rfl) (fun K hK => ?_)
                    refine step_append_lies _ (by rfl) (.tmp 143) (.tmp 156) 29 (by rfl) 0 36 i36 (.agg #[.int .u64 0, .int .u64 0]) 2 16 Yba.underlying29 hi36 hz36 hs36 hb36 rfl (by decide) (.slice (some ⟨gr, 0, none⟩) (m + 1) cr) (m + 1) (runCells A Z FL) (by rfl) (by exact (HSt9.out.grow ((Below.refl _ _).alloc (Nat.le_refl _) _)).R) ⟨w9.heap.size, 0, none⟩ 1 1 [.int .u64 (am (mm (hz A 0 FL) A) (v + 1) : Nat), .int .u64 (am (mm (hz Z 0 FL) Z) (v + 1) : Nat)] (by rfl) (by rfl) (by exact World.news_of_block (heap_alloc_new _ _)) (by intro u hu; simp at hu; rcases hu with rfl | rfl <;> rfl) (by omega) (by unfold maxLen; omega) (by omega) (Nat.zero_le _) _ rfl ?_
                    intro gr2 cr2 w10 ho10 hg10 hat10 hlt10
                    have HSt10 : Hid _ := St.appR (HSt9.out.grow ((Below.refl _ _).alloc (Nat.le_refl _) _)) ho10 hg10 hat10
                    clear ho10 hg10 hat10 hlt10
                    refine hK.out _ _ (fun h => absurd h (by decide)) (fun _ => ?_)
                    clear hK K
                    try simp only [Act.put, List.setIfInBounds_toArray, List.set_cons_zero, List.set_cons_succ]
                    refine anyG_one (i := 15) rfl (by kernel_rfl) (fun K hK => ?_)
                    go_simp
                    refine hK.out _ _ (fun h => absurd h (by decide)) (fun _ => ?_)
                    clear hK K
                    refine anyG_done (by kernel_rfl) ?_ _
                    refine NoPanic.normal ?_
                    clear ww wv m0 m1 lh1 lh2
                    go_wp2
                    go_roundw
                    case rel =>
                      have hst10 := HSt10.out
                      have eF : FL ++ [v] = flTo p S l j ++ (l.drop ty).take (i + 1 - ty) := by
                        have h1 := Hi.out
                        have h2 := HFT.out
                        have h3 := HLl.out
                        rw [HFL.out, List.append_assoc, show i + 1 - ty = (i - ty) + 1 by omega, List.take_succ_eq_append_getElem (by rw [List.length_drop]; omega), HV.out, List.getElem_drop, List.getD_eq_getElem?_getD, List.getElem?_eq_getElem (by omega)]
                        simp only [Option.getD_some, show ty + (i - ty) = i by omega]
                      rw [← idCells_snoc, ← runCells_snoc, eF] at hst10
                      have em : m + 1 = aj + (i + 1 - ty) := by have h1 := Hi.out; have h2 := Hm.out; omega
                      rw [em] at hst10
                      exact ⟨i + 1, gf2, cf2, gr2, cr2, by have h1 := Hi.out; omega, by omega, by rw [em], by rw [em], by go_num, hst10⟩
                    case measure => simp [intOf]; omega
                  · have e : i = fx := by have := Hi.out; omega
                    have eF : FL = flTo p S l (j + 1) := by
                      rw [HFL.out, e]
                      show _ = flTo p S l j ++ (l.drop (spF p S j)).take (spT p S j - spF p S j)
                      rw [HFs.out, HTs.out]
                    have em : m = spA p S l (j + 1) := by rw [← Hmlen.out, eF]; rfl
                    have hft := HFT.out
                    have et : (aj : Int) + ((fx : Int) - ty) = (spA p S l (j + 1) : Nat) := by have h2 := Hm.out; have h3 := Hi.out; rw [← em]; omega
                    have HEm : Hid (m = spA p S l (j + 1)) := em
                    have HEt : Hid ((aj : Int) + ((fx : Int) - ty) = (spA p S l (j + 1) : Nat)) := et
                    have hst' := HSti.out
                    rw [eF] at hst'
                    have HSt' : Hid (St wb gs n gs ga gp (spCells p S (j + 1)) (atCells p S l (j + 1)) (preCells A Z p S l (j + 1)) (idCells (flTo p S l (j + 1))) (runCells A Z (flTo p S l (j + 1))) (j + 1) (j + 1) (j + 1) gf m cf gr (m + 1) cr wr) := hst'
                    have u1 : (ty : Int) ≤ fx := by omega
                    clear et em eF hst' e hft
                    go_wp2
                    go_roundw
                    case rel =>
                      have hs := HSt'.out
                      rw [HEm.out] at hs
                      exact ⟨j + 1, gf, cf, gr, cr, by omega, rfl, rfl, rfl, by rw [HEm.out], by rw [HEm.out], by rw [HEt.out], by go_num, hs⟩
                    case measure => simp [intOf]; omega
              · go_upto_region 26 with fail
                simp only [rx, ry]
                have HFs : Hid (spF p S j = fx) := by have := HFe.out; show spF p S j = fx; omega
                have HTs : Hid (spT p S j = ty) := by have := HTe.out; show spT p S j = ty; omega
                have q8 : (fx : Int) ≤ ty := by omega
                have q9 : (ty : Int) ≤ p := by have h := spT_le p S j; rw [HTs.out] at h; omega
                clear rx ry cx cy q5 q6
                have z0 := own_cell HSt.out.R (runCells_get A Z (flTo p S l j) aj (by rw [HAe.out]; exact Nat.le_refl _)).1
                have z1 := own_cell HSt.out.R (runCells_get A Z (flTo p S l j) aj (by rw [HAe.out]; exact Nat.le_refl _)).2
                rw [show aj = (flTo p S l j).length from HAe.out, pf_all] at z0 z1
                rw [show (flTo p S l j).length = aj from HAe.out.symm] at z0 z1
                have HZ : Hid (wr.cell? ⟨gr, aj * 2, none⟩ = some (.int .u64 (hz A 0 (flTo p S l j) : Nat)) ∧ wr.cell? ⟨gr, aj * 2 + 1, none⟩ = some (.int .u64 (hz Z 0 (flTo p S l j) : Nat))) := ⟨z0, z1⟩
                clear z0 z1
                go_wp2_with (first
                  | (at_builtin; refine wpList_append_fits _ rfl (.tmp 113) (.tmp 117) 27 rfl 0 52 i52 2 Yba.underlying27 hi52 hs52 gs j n (spCells p S j) rfl (by exact (HSt.out.grow ((Below.refl _ _).alloc (Nat.le_refl _) _)).S) ⟨wr.heap.size, 0, none⟩ 1 1 [.int .i64 (fx : Nat), .int .i64 (ty : Nat)] rfl rfl (by exact World.news_of_block (heap_alloc_new _ _)) (by intro u hu; simp at hu; rcases hu with rfl | rfl <;> rfl) (by omega) ?_; intro w5 ho5 hg5; have HSt5 : Hid _ := St.appS (HSt.out.grow ((Below.refl _ _).alloc (Nat.le_refl _) _)) ho5 hg5; clear ho5 hg5)
                  | (at_builtin; refine wpList_append_fits _ rfl (.tmp 119) (.tmp 121) 28 rfl 0 3 i3 1 Yba.underlying28 hi3 hs3 ga j n (atCells p S l j) rfl (by exact (HSt5.out.grow ((Below.refl _ _).alloc (Nat.le_refl _) _)).A) ⟨w5.heap.size, 0, none⟩ 1 1 [.int .i64 (aj : Nat)] rfl rfl (by exact World.news_of_block (heap_alloc_new _ _)) (by intro u hu; simp at hu; subst hu; rfl) (by omega) ?_; intro w6 ho6 hg6; have HSt6 : Hid _ := St.appA (HSt5.out.grow ((Below.refl _ _).alloc (Nat.le_refl _) _)) ho6 hg6; have z0 := own_cell HSt6.out.R (runCells_get A Z (flTo p S l j) (flTo p S l j).length (Nat.le_refl _)).1; have z1 := own_cell HSt6.out.R (runCells_get A Z (flTo p S l j) (flTo p S l j).length (Nat.le_refl _)).2; rw [pf_all, show (flTo p S l j).length = aj from HAe.out.symm] at z0 z1; clear ho6 hg6)
                  | (at_builtin; refine wpList_append_fits _ rfl (.tmp 123) (.tmp 128) 29 rfl 0 36 i36 2 Yba.underlying29 hi36 hs36 gp j n (preCells A Z p S l j) rfl (by exact (HSt6.out.grow ((Below.refl _ _).alloc (Nat.le_refl _) _)).P) ⟨w6.heap.size, 0, none⟩ 1 1 [.int .u64 (hz A 0 (flTo p S l j) : Nat), .int .u64 (hz Z 0 (flTo p S l j) : Nat)] rfl rfl (by exact World.news_of_block (heap_alloc_new _ _)) (by intro u hu; simp at hu; rcases hu with rfl | rfl <;> rfl) (by omega) ?_; intro w7 ho7 hg7; have HSt7 : Hid _ := St.appP (HSt6.out.grow ((Below.refl _ _).alloc (Nat.le_refl _) _)) ho7 hg7; clear ho7 hg7 z0 z1))
                have hst7 := HSt7.out
                rw [show spCells p S j ++ [.int .i64 (fx : Nat), .int .i64 (ty : Nat)] = spCells p S (j + 1) by show _ = spCells p S j ++ _; rw [HFs.out, HTs.out], show atCells p S l j ++ [.int .i64 (aj : Nat)] = atCells p S l (j + 1) by show _ = atCells p S l j ++ _; rw [← HAe.out],
                  show preCells A Z p S l j ++ [.int .u64 (hz A 0 (flTo p S l j) : Nat), .int .u64 (hz Z 0 (flTo p S l j) : Nat)] = preCells A Z p S l (j + 1) from rfl] at hst7
                have HSt8 : Hid (St wb gs n gs ga gp (spCells p S (j + 1)) (atCells p S l (j + 1)) (preCells A Z p S l (j + 1)) (idCells (flTo p S l j ++ (l.drop fx).take 0)) (runCells A Z (flTo p S l j ++ (l.drop fx).take 0)) (j + 1) (j + 1) (j + 1) gf (aj + (fx - fx)) cf gr (aj + (fx - fx) + 1) cr w7) := by
                  show St _ _ _ _ _ _ _ _ _ _ _ _ _ _ _ _ _ _ _ _ _
                  rw [Nat.sub_self, List.take_zero, List.append_nil]; exact hst7
                have HFT : Hid (fx ≤ ty ∧ ty ≤ p) := ⟨by omega, by omega⟩
                have HSl2 : Hid (∀ k, k < p → l.getD k 0 < 65536) := fun k hk => by
                  rw [List.getD_eq_getElem?_getD, List.getElem?_eq_getElem (by rw [HLl.out]; omega)]
                  exact HX.out _ (List.getElem_mem _)
                clear hst7 HSt7 HSt5 HSt6 HZ hsw q8 q9
                go_loopw [20, 21, 26] (fun v20 v21 v26 wi => ∃ i gf cf gr cr : Nat, fx ≤ i ∧ i ≤ ty ∧ v20 = .slice (some ⟨gf, 0, none⟩) (aj + (i - fx)) cf ∧ v21 = .slice (some ⟨gr, 0, none⟩) (aj + (i - fx) + 1) cr ∧ v26 = .int .i64 i ∧
                    St wb gs n gs ga gp (spCells p S (j + 1)) (atCells p S l (j + 1)) (preCells A Z p S l (j + 1)) (idCells (flTo p S l j ++ (l.drop fx).take (i - fx))) (runCells A Z (flTo p S l j ++ (l.drop fx).take (i - fx))) (j + 1) (j + 1) (j + 1) gf (aj + (i - fx)) cf gr (aj + (i - fx) + 1) cr wi) (fun _ _ i _ => ty - (intOf i).toNat)
                case atStart => exact ⟨fx, gf, cf, gr, cr, Nat.le_refl _, HFT.out.1, by rw [Nat.sub_self]; rfl, by rw [Nat.sub_self], rfl, by rw [show (l.drop fx).take (fx - fx) = (l.drop fx).take 0 by rw [Nat.sub_self]]; exact HSt8.out⟩
                case round =>
                  clear HSt8
                  obtain ⟨i, gf, cf, gr, cr, hi1, hi2, rfl, rfl, rfl, hst⟩ := hrel
                  have Hi : Hid (fx ≤ i ∧ i ≤ ty) := ⟨hi1, hi2⟩
                  clear hi1 hi2
                  obtain ⟨m, hm⟩ : ∃ m, m = aj + (i - fx) := ⟨_, rfl⟩
                  obtain ⟨FL, hFL⟩ : ∃ FL, FL = flTo p S l j ++ (l.drop fx).take (i - fx) := ⟨_, rfl⟩
                  rw [← hm, ← hFL] at hst
                  rw [← hm]
                  have hmlen : FL.length = m := by
                    have h1 := Hi.out
                    have h2 := HFT.out
                    rw [hFL, hm, List.length_append, List.length_take, List.length_drop, HLl.out, show (flTo p S l j).length = aj from HAe.out.symm]; omega
                  have HSti : Hid (St wb gs n gs ga gp (spCells p S (j + 1)) (atCells p S l (j + 1)) (preCells A Z p S l (j + 1)) (idCells FL) (runCells A Z FL) (j + 1) (j + 1) (j + 1) gf m cf gr (m + 1) cr wr) := hst
                  have Hm : Hid (m = aj + (i - fx)) := hm
                  have HFL : Hid (FL = flTo p S l j ++ (l.drop fx).take (i - fx)) := hFL
                  have Hmlen : Hid (FL.length = m) := hmlen
                  clear hst hm hFL hmlen
                  by_cases hlt2 : (i : Int) < ty
                  · have hip : i < p := by have h2 := HFT.out; omega
                    have hwr : ∀ b o, b < tp + 1 → wr.cell? ⟨b, o, none⟩ = wb.cell? ⟨b, o, none⟩ := fun b o hb => HSti.out.bel.cell (p := ⟨b, o, none⟩) (by show b < gs; have := HTpLt.out; omega)
                    have ci : wr.cell? ⟨ti, i, none⟩ = some (.int .i32 (l.getD i 0 : Nat)) := ((hwr ti i (by have := HTp.out; omega)).trans (HBr.out.cell (by exact HTp.out.1))).trans (HId.out.cell hip)
                    have c0 : wr.cell? ⟨bs, 0, none⟩ = some (.int .u64 A) := ((hwr bs 0 (by have := HTp.out; omega)).trans (HBr.out.cell (by exact HTp.out.2.1))).trans (cell_of_block HBs2.out 0)
                    have c1 : wr.cell? ⟨bs, 1, none⟩ = some (.int .u64 Z) := ((hwr bs 1 (by have := HTp.out; omega)).trans (HBr.out.cell (by exact HTp.out.2.1))).trans (cell_of_block HBs2.out 1)
                    have hv := HSl2.out i hip
                    obtain ⟨v, hvv⟩ : ∃ v, v = l.getD i 0 := ⟨_, rfl⟩
                    rw [← hvv] at ci hv
                    have HV : Hid (v = l.getD i 0) := hvv
                    have j0 : (0 : Int) ≤ i := by omega
                    have j1 : (i : Int) < p := by omega
                    have j2 : (m : Int) ≤ 263168 := by have h1 := Hm.out; have h2 := HFT.out; have h3 := Hi.out; omega
                    have HC : Hid (wr.cell? ⟨bs, 0, none⟩ = some (.int .u64 A) ∧ wr.cell? ⟨bs, 1, none⟩ = some (.int .u64 Z) ∧ wr.cell? ⟨ti, i, none⟩ = some (.int .i32 (v : Nat))) := ⟨c0, c1, ci⟩
                    clear hvv hwr hip c0 c1
                    go_upto_region 33 with (at_builtin; refine wpList_append_lies _ rfl (.tmp 136) (.tmp 141) 32 rfl 0 21 i21 (.int .i32 0) 1 4 Yba.underlying32 hi21 hz21 hs21 hb21 rfl (by decide) (.slice (some ⟨gf, 0, none⟩) m cf) m (idCells FL) (by rfl) (by exact (HSti.out.grow ((Below.refl _ _).alloc (Nat.le_refl _) _)).F) ⟨wr.heap.size, 0, none⟩ 1 1 [.int .i32 (v : Nat)] (by rfl) (by rfl) (by exact World.news_of_block (heap_alloc_new _ _)) (by intro u hu; simp at hu; subst hu; rfl) (by omega) (by unfold maxLen; omega) (by omega) (Nat.zero_le _) _ rfl ?_; intro gf2 cf2 w8 ho8 hg8 hat8 hlt8; have HSt8 : Hid _ := St.appF (HSti.out.grow ((Below.refl _ _).alloc (Nat.le_refl _) _)) ho8 hg8 hat8; have HBl8 : Hid _ := below_grown hg8 (show tp + 1 ≤ gf by have h1 := HSti.out.ord; have h2 := HTpLt.out; omega) (show tp + 1 ≤ (wr.alloc (.cells #[.int .i32 (v : Nat)] 21)).heap.size by have h1 := own_lt HSti.out.S; have h2 := HTpLt.out; simp; omega); clear ho8 hg8 hat8 hlt8)
                    have h8 : ∀ b o, b < tp + 1 → w8.cell? ⟨b, o, none⟩ = wr.cell? ⟨b, o, none⟩ := fun b o hb => (HBl8.out.cell (p := ⟨b, o, none⟩) hb).trans (World.cell?_alloc_past _ _ _ (by have h1 := own_lt HSti.out.S; have h2 := HTpLt.out; omega))
                    have d0 := (h8 bs 0 (by have := HTp.out; omega)).trans HC.out.1
                    have d1 := (h8 bs 1 (by have := HTp.out; omega)).trans HC.out.2.1
                    have d2 := (h8 ti i (by have := HTp.out; omega)).trans HC.out.2.2
                    have z0 := own_cell HSt8.out.R (runCells_get A Z FL FL.length (Nat.le_refl _)).1
                    have z1 := own_cell HSt8.out.R (runCells_get A Z FL FL.length (Nat.le_refl _)).2
                    rw [pf_all, Hmlen.out] at z0 z1
                    have HD : Hid (w8.cell? ⟨bs, 0, none⟩ = some (.int .u64 A) ∧ w8.cell? ⟨bs, 1, none⟩ = some (.int .u64 Z) ∧ w8.cell? ⟨gr, m * 2, none⟩ = some (.int .u64 (hz A 0 FL : Nat)) ∧ w8.cell? ⟨gr, m * 2 + 1, none⟩ = some (.int .u64 (hz Z 0 FL : Nat)) ∧ w8.cell? ⟨ti, i, none⟩ = some (.int .i32 (v : Nat))) := ⟨d0, d1, z0, z1, d2⟩
                    have HLt8 : Hid (bs < w8.heap.size ∧ gr < w8.heap.size ∧ ti < w8.heap.size) := by have h1 := own_lt HSt8.out.R; have h2 := own_lt HSt8.out.S; have h3 := HTpLt.out; have h4 := HTp.out; exact ⟨by omega, h1, by omega⟩
                    have ww : IntKind.i64.wrap ((m : Int) + 1 - 1) = m := by rw [IntKind.wrap_i64]; omega
                    have wv : IntKind.i64.wrap (m : Int) = m := by rw [IntKind.wrap_i64]; omega
                    have m0 : (0 : Int) ≤ m := by omega
                    have m1 : (m : Int) < (m : Int) + 1 := by omega
                    have lh1 := hz0_lt A FL
                    have lh2 := hz0_lt Z FL
                    clear h8 d0 d1 d2 z0 z1 ci
                    refine wp_region_noPanic ?_
                    refine wp_region_G (fun w' => w'.cell? ⟨bs, 0, none⟩ = some (.int .u64 A) ∧ w'.cell? ⟨bs, 1, none⟩ = some (.int .u64 Z) ∧ w'.cell? ⟨gr, m * 2, none⟩ = some (.int .u64 (hz A 0 FL : Nat)) ∧ w'.cell? ⟨gr, m * 2 + 1, none⟩ = some (.int .u64 (hz Z 0 FL : Nat)) ∧ w'.cell? ⟨ti, i, none⟩ = some (.int .i32 (v : Nat))) 14 (by kernel_rfl) HD.out (fun hHeld => ?_)
                    refine anyG_take (i := 0) 9 (v := ?_) rfl (by kernel_rfl) (by kernel_rfl) (by kernel_rfl) (by kernel_rfl) (by kernel_rfl) (fun _ _ _ h => h) (Or.inl ⟨by rfl, ?_⟩) (by assumption) ?_
                    rotate_left
                    · (intro w hSw; (try dsimp only at hSw); go_simp; all_goals (with_reducible rfl))
                    try simp only [Act.put, List.setIfInBounds_toArray, List.set_cons_zero, List.set_cons_succ]
                    refine anyG_take (i := 1) 9 (v := ?_) rfl (by kernel_rfl) (by kernel_rfl) (by kernel_rfl) (by kernel_rfl) (by kernel_rfl) (fun _ _ _ h => h) (Or.inl ⟨by rfl, ?_⟩) (by assumption) ?_
                    rotate_left
                    · (intro w hSw; (try dsimp only at hSw); go_simp; all_goals (with_reducible rfl))
                    try simp only [Act.put, List.setIfInBounds_toArray, List.set_cons_zero, List.set_cons_succ]
                    refine anyG_take (i := 2) 9 (v := ?_) rfl (by kernel_rfl) (by kernel_rfl) (by kernel_rfl) (by kernel_rfl) (by kernel_rfl) (fun _ _ _ h => h) (Or.inl ⟨by rfl, ?_⟩) (by assumption) ?_
                    rotate_left
                    · (intro w hSw; (try dsimp only at hSw); go_simp; all_goals (with_reducible rfl))
                    try simp only [Act.put, List.setIfInBounds_toArray, List.set_cons_zero, List.set_cons_succ]
                    refine anyG_take (i := 3) 9 (v := ?_) rfl (by kernel_rfl) (by kernel_rfl) (by kernel_rfl) (by kernel_rfl) (by kernel_rfl) (fun _ _ _ h => h) (Or.inl ⟨by rfl, ?_⟩) (by assumption) ?_
                    rotate_left
                    · (intro w hSw; (try dsimp only at hSw); go_simp; all_goals (with_reducible rfl))
                    try simp only [Act.put, List.setIfInBounds_toArray, List.set_cons_zero, List.set_cons_succ]
                    refine anyG_take (i := 4) 9 (v := ?_) rfl (by kernel_rfl) (by kernel_rfl) (by kernel_rfl) (by kernel_rfl) (by kernel_rfl) (fun _ _ _ h => h) (Or.inl ⟨by rfl, ?_⟩) (by assumption) ?_
                    rotate_left
                    · (intro w hSw; (try dsimp only at hSw); go_simp; all_goals (with_reducible rfl))
                    try simp only [Act.put, List.setIfInBounds_toArray, List.set_cons_zero, List.set_cons_succ]
                    refine anyG_take (i := 5) 9 (v := ?_) rfl (by kernel_rfl) (by kernel_rfl) (by kernel_rfl) (by kernel_rfl) (by kernel_rfl) (fun _ _ _ h => h) (Or.inl ⟨by rfl, ?_⟩) (by assumption) ?_
                    rotate_left
                    · (intro w hSw; (try dsimp only at hSw); go_simp; all_goals (with_reducible rfl))
                    try simp only [Act.put, List.setIfInBounds_toArray, List.set_cons_zero, List.set_cons_succ]
                    refine anyG_take (i := 6) 9 (v := ?_) rfl (by kernel_rfl) (by kernel_rfl) (by kernel_rfl) (by kernel_rfl) (by kernel_rfl) (fun _ _ _ h => h) (Or.inl ⟨by rfl, ?_⟩) (by assumption) ?_
                    rotate_left
                    · (intro w hSw; (try dsimp only at hSw); go_simp; all_goals (with_reducible rfl))
                    try simp only [Act.put, List.setIfInBounds_toArray, List.set_cons_zero, List.set_cons_succ]
                    refine anyG_take (i := 7) 9 (v := ?_) rfl (by kernel_rfl) (by kernel_rfl) (by kernel_rfl) (by kernel_rfl) (by kernel_rfl) (fun _ _ _ h => h) (Or.inl ⟨by rfl, ?_⟩) (by assumption) ?_
                    rotate_left
                    · (intro w hSw; (try dsimp only at hSw); go_simp; all_goals (with_reducible rfl))
                    try simp only [Act.put, List.setIfInBounds_toArray, List.set_cons_zero, List.set_cons_succ]
                    refine anyG_take (i := 8) 9 (v := ?_) rfl (by kernel_rfl) (by kernel_rfl) (by kernel_rfl) (by kernel_rfl) (by kernel_rfl) (fun _ _ _ h => h) (Or.inl ⟨by rfl, ?_⟩) (by assumption) ?_
                    rotate_left
                    · (intro w hSw; (try dsimp only at hSw); go_simp; all_goals (with_reducible rfl))
                    try simp only [Act.put, List.setIfInBounds_toArray, List.set_cons_zero, List.set_cons_succ]
                    refine anyG_take (i := 9) 9 (v := ?_) rfl (by kernel_rfl) (by kernel_rfl) (by kernel_rfl) (by kernel_rfl) (by kernel_rfl) (fun _ _ _ h => h) (Or.inl ⟨by rfl, ?_⟩) (by assumption) ?_
                    rotate_left
                    · (intro w hSw; (try dsimp only at hSw); go_simp; all_goals (with_reducible rfl))
                    try simp only [Act.put, List.setIfInBounds_toArray, List.set_cons_zero, List.set_cons_succ]
                    refine anyG_take (i := 10) 9 (v := ?_) rfl (by kernel_rfl) (by kernel_rfl) (by kernel_rfl) (by kernel_rfl) (by kernel_rfl) (fun _ _ _ h => h) (Or.inl ⟨by rfl, ?_⟩) (by assumption) ?_
                    rotate_left
                    · (intro w hSw; (try dsimp only at hSw); go_simp; all_goals (with_reducible rfl))
                    try simp only [Act.put, List.setIfInBounds_toArray, List.set_cons_zero, List.set_cons_succ]
                    refine anyG_take (i := 11) 9 (v := ?_) rfl (by kernel_rfl) (by kernel_rfl) (by kernel_rfl) (by kernel_rfl) (by kernel_rfl) (fun _ _ _ h => h) (Or.inl ⟨by rfl, ?_⟩) (by assumption) ?_
                    rotate_left
                    · (intro w hSw; (try dsimp only at hSw); go_simp; all_goals (with_reducible rfl))
                    try simp only [Act.put, List.setIfInBounds_toArray, List.set_cons_zero, List.set_cons_succ]
                    refine anyG_one (i := 12) rfl (by kernel_rfl) (fun K hK => ?_)
                    go_simp
                    refine (step_any A Z _ _ v _ lA lZ lh1 lh2 hv).mono ?_
                    rintro e w9 ⟨rfl, hb9⟩
                    dsimp only
                    have HD9 : Hid (w9.cell? ⟨bs, 0, none⟩ = some (.int .u64 A) ∧ w9.cell? ⟨bs, 1, none⟩ = some (.int .u64 Z) ∧ w9.cell? ⟨gr, m * 2, none⟩ = some (.int .u64 (hz A 0 FL : Nat)) ∧ w9.cell? ⟨gr, m * 2 + 1, none⟩ = some (.int .u64 (hz Z 0 FL : Nat)) ∧ w9.cell? ⟨ti, i, none⟩ = some (.int .i32 (v : Nat))) := keep_b5 hb9 HLt8.out HD.out
                    have HSt9 : Hid _ := (HSt8.out.grow ((Below.refl _ _).drew)).grow hb9
                    have HLt9 : Hid (bs < w9.heap.size ∧ gr < w9.heap.size ∧ ti < w9.heap.size) := by have h1 := HLt8.out; have h2 : w8.heap.size ≤ w9.heap.size := hb9.size; exact ⟨by omega, by omega, by omega⟩
                    refine hK.out _ _ (fun _ => HD9.out) (fun _ => ?_)
                    clear hK K hHeld hb9
                    try simp only [Act.put, List.setIfInBounds_toArray, List.set_cons_zero, List.set_cons_succ]
                    refine anyG_one (i := 13) rfl (by kernel_rfl) (fun K hK => ?_)
                    go_simp
                    refine hK.out _ _ (fun _ => keep_a5 HLt9.out HD9.out) (fun _ => ?_)
                    clear hK K
                    try simp only [Act.put, List.setIfInBounds_toArray, List.set_cons_zero, List.set_cons_succ]
                    refine anyG_one (i := 14) rfl (by kernel_rfl) (fun K hK => ?_)
                    refine step_append_lies _ (by rfl) (.tmp 143) (.tmp 156) 29 (by rfl) 0 36 i36 (.agg #[.int .u64 0, .int .u64 0]) 2 16 Yba.underlying29 hi36 hz36 hs36 hb36 rfl (by decide) (.slice (some ⟨gr, 0, none⟩) (m + 1) cr) (m + 1) (runCells A Z FL) (by rfl) (by exact (HSt9.out.grow ((Below.refl _ _).alloc (Nat.le_refl _) _)).R) ⟨w9.heap.size, 0, none⟩ 1 1 [.int .u64 (am (mm (hz A 0 FL) A) (v + 1) : Nat), .int .u64 (am (mm (hz Z 0 FL) Z) (v + 1) : Nat)] (by rfl) (by rfl) (by exact World.news_of_block (heap_alloc_new _ _)) (by intro u hu; simp at hu; rcases hu with rfl | rfl <;> rfl) (by omega) (by unfold maxLen; omega) (by omega) (Nat.zero_le _) _ rfl ?_
                    intro gr2 cr2 w10 ho10 hg10 hat10 hlt10
                    have HSt10 : Hid _ := St.appR (HSt9.out.grow ((Below.refl _ _).alloc (Nat.le_refl _) _)) ho10 hg10 hat10
                    clear ho10 hg10 hat10 hlt10
                    refine hK.out _ _ (fun h => absurd h (by decide)) (fun _ => ?_)
                    clear hK K
                    try simp only [Act.put, List.setIfInBounds_toArray, List.set_cons_zero, List.set_cons_succ]
                    refine anyG_one (i := 15) rfl (by kernel_rfl) (fun K hK => ?_)
                    go_simp
                    refine hK.out _ _ (fun h => absurd h (by decide)) (fun _ => ?_)
                    clear hK K
                    refine anyG_done (by kernel_rfl) ?_ _
                    refine NoPanic.normal ?_
                    clear ww wv m0 m1 lh1 lh2
                    go_wp2
                    go_roundw
                    case rel =>
                      have hst10 := HSt10.out
                      have eF : FL ++ [v] = flTo p S l j ++ (l.drop fx).take (i + 1 - fx) := by
                        have h1 := Hi.out
                        have h2 := HFT.out
                        have h3 := HLl.out
                        rw [HFL.out, List.append_assoc, show i + 1 - fx = (i - fx) + 1 by omega, List.take_succ_eq_append_getElem (by rw [List.length_drop]; omega), HV.out, List.getElem_drop, List.getD_eq_getElem?_getD, List.getElem?_eq_getElem (by omega)]
                        simp only [Option.getD_some, show fx + (i - fx) = i by omega]
                      rw [← idCells_snoc, ← runCells_snoc, eF] at hst10
                      have em : m + 1 = aj + (i + 1 - fx) := by have h1 := Hi.out; have h2 := Hm.out; omega
                      rw [em] at hst10
                      exact ⟨i + 1, gf2, cf2, gr2, cr2, by have h1 := Hi.out; omega, by omega, by rw [em], by rw [em], by go_num, hst10⟩
                    case measure => simp [intOf]; omega
                  · have e : i = ty := by have := Hi.out; omega
                    have eF : FL = flTo p S l (j + 1) := by
                      rw [HFL.out, e]
                      show _ = flTo p S l j ++ (l.drop (spF p S j)).take (spT p S j - spF p S j)
                      rw [HFs.out, HTs.out]
                    have em : m = spA p S l (j + 1) := by rw [← Hmlen.out, eF]; rfl
                    have hft := HFT.out
                    have et : (aj : Int) + ((ty : Int) - fx) = (spA p S l (j + 1) : Nat) := by have h2 := Hm.out; have h3 := Hi.out; rw [← em]; omega
                    have HEm : Hid (m = spA p S l (j + 1)) := em
                    have HEt : Hid ((aj : Int) + ((ty : Int) - fx) = (spA p S l (j + 1) : Nat)) := et
                    have hst' := HSti.out
                    rw [eF] at hst'
                    have HSt' : Hid (St wb gs n gs ga gp (spCells p S (j + 1)) (atCells p S l (j + 1)) (preCells A Z p S l (j + 1)) (idCells (flTo p S l (j + 1))) (runCells A Z (flTo p S l (j + 1))) (j + 1) (j + 1) (j + 1) gf m cf gr (m + 1) cr wr) := hst'
                    have u1 : (fx : Int) ≤ ty := by omega
                    clear et em eF hst' e hft
                    go_wp2
                    go_roundw
                    case rel =>
                      have hs := HSt'.out
                      rw [HEm.out] at hs
                      exact ⟨j + 1, gf, cf, gr, cr, by omega, rfl, rfl, rfl, by rw [HEm.out], by rw [HEm.out], by rw [HEt.out], by go_num, hs⟩
                    case measure => simp [intOf]; omega
            · have e : j = n := by have := Hj.out; omega
              subst e
              have c0 : wr.cell? ⟨bs, 0, none⟩ = some (.int .u64 A) := ((HSt.out.bel.cell (p := ⟨bs, 0, none⟩) (by show bs < gs; have h1 := HTp.out; have h2 := HTpLt.out; omega)).trans (HBr.out.cell (by exact HTp.out.2.1))).trans (cell_of_block HBs2.out 0)
              have c1 : wr.cell? ⟨bs, 1, none⟩ = some (.int .u64 Z) := ((HSt.out.bel.cell (p := ⟨bs, 1, none⟩) (by show bs < gs; have h1 := HTp.out; have h2 := HTpLt.out; omega)).trans (HBr.out.cell (by exact HTp.out.2.1))).trans (cell_of_block HBs2.out 1)
              have hres : wr.heap[w.heap.size]? = some (.cells #[.pointer none, .slice none 0 0, .slice none 0 0, .slice none 0 0, .int .i64 0] 31 (0, 0)) := by
                have h1 := HTp.out
                have h2 := HTpLt.out
                rw [HSt.out.bel.block _ (by omega), HBr.out.block _ (by omega), HB.out.block _ (by omega)]
                exact HF0.out
              have e0 : wr.cell? ⟨w.heap.size, 0, none⟩ = some (.pointer none) := cell_of_block hres 0
              have e1 : wr.cell? ⟨w.heap.size, 1, none⟩ = some (.slice none 0 0) := cell_of_block hres 1
              have e2 : wr.cell? ⟨w.heap.size, 2, none⟩ = some (.slice none 0 0) := cell_of_block hres 2
              have e3 : wr.cell? ⟨w.heap.size, 3, none⟩ = some (.slice none 0 0) := cell_of_block hres 3
              have e4 : wr.cell? ⟨w.heap.size, 4, none⟩ = some (.int .i64 0) := cell_of_block hres 4
              have e5 : ∀ o, wr.frozen? ⟨w.heap.size, o, none⟩ = false := fun o => frozen_of_block hres
              have lr : w.heap.size < wr.heap.size := lt_of_heap hres
              have lr1 : w.heap.size < wr.heap.size + 1 := by omega
              have lr2 : w.heap.size < wr.heap.size + 1 + 1 := by omega
              have HRes : Hid (wr.heap[w.heap.size]? = some (.cells #[.pointer none, .slice none 0 0, .slice none 0 0, .slice none 0 0, .int .i64 0] 31 (0, 0))) := hres
              clear hres
              go_wp2
              obtain ⟨hr, hB⟩ := built_end (S := S) (.pointer none) (.slice none 0 0) (.slice none 0 0) (.slice none 0 0) (.int .i64 0) HRes.out HSt.out HTpR.out HTpLt.out (by have h1 := HTp.out; omega) ((HF3.out.trans (HB.out.mono (by have h1 := HTp.out; omega))).trans (HBr.out.mono (by have h1 := HTp.out; omega))) (.pointer (some ⟨wr.heap.size + 1 + 1, 0, none⟩)) (.slice (some ⟨gs, 0, none⟩) j j) (.slice (some ⟨ga, 0, none⟩) j j) (.slice (some ⟨gp, 0, none⟩) j j) (.int .i64 (spA p S l j : Nat)) (.slice (some ⟨ti, 0, none⟩) p p)
              have t0 := cell_of_block hr 0
              have t1 := cell_of_block hr 1
              have t2 := cell_of_block hr 2
              have t3 := cell_of_block hr 3
              have t4 := cell_of_block hr 4
              clear e0 e1 e2 e3 e4 e5 lr lr1 lr2 hr c0 c1
              refine bodyPost_ret (v := .tuple #[.agg #[.pointer (some ⟨wr.heap.size + 1 + 1, 0, none⟩), .slice (some ⟨gs, 0, none⟩) j j, .slice (some ⟨ga, 0, none⟩) j j, .slice (some ⟨gp, 0, none⟩) j j, .int .i64 (spA p S l j : Nat)], .slice (some ⟨gf, 0, none⟩) (spA p S l j) cf, .slice (some ⟨gr, 0, none⟩) (spA p S l j + 1) cr]) ?_ rfl ⟨_, _, _, tp, gs, ga, gp, gf, cf, gr, cr, A, Z, rfl, HAe0.out.1, HAe0.out.2, lA, lZ, hB⟩
              simp [results, Yba.results7, go_sem, t0, t1, t2, t3, t4]

#print axioms build_any
end Go.Proofs.Ybulkese
