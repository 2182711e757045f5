/-
  THE WALK OF LawS0277ATail, where there are at most 1024 ids and 1 to 256 spans.
-/
import Derived.Test.YbulkeseTail
namespace Go.Proofs.Ybulkese
open Go.RowKit
theorem mem_flTo (L : Nat) (S : List (Nat × Nat)) (l : List Nat) (j x : Nat) (h : x ∈ flTo L S l j) : x ∈ l := by
  induction j with
  | zero => cases h
  | succ j ih =>
    rcases List.mem_append.1 h with h | h
    · exact ih h
    · exact List.mem_of_mem_drop (List.mem_of_mem_take h)

attribute [local go_sem ↓] Go.wp_at_zero Go.wp_at_succ

set_option linter.unusedSimpArgs false in
set_option maxRecDepth 100000 in
set_option maxHeartbeats 1000000 in
theorem tail_walk (ba bb nq : Nat) (at0 at1 : Option Addr) (L cap0 n cap1 : Nat) (l : List Nat) (S : List (Nat × Nat)) (w : World)
    (hL : (L : Int) ≤ 1024) (hl : l.length = L) (hx : ∀ x ∈ l, x < 65536)
    (hin : 0 < L → ∃ b off, at0 = some ⟨b, off, none⟩ ∧ b < w.heap.size ∧ ∀ i, i < L → w.cell? ⟨b, off + i, none⟩ = some (.int .u16 (l.getD i 0 : Nat)))
    (hn : (n : Int) ≤ 256) (hn0 : 0 < n) (hS : S.length = n) (hb16 : ∀ x ∈ S, x.1 < 65536 ∧ x.2 < 65536)
    (hin1 : ∃ b off, at1 = some ⟨b, off, none⟩ ∧ b < w.heap.size ∧ ∀ i, i < n → w.cell? ⟨b, off + i * 2, none⟩ = some (.int .u16 ((S.getD i (0, 0)).1 : Nat)) ∧ w.cell? ⟨b, off + (i * 2 + 1), none⟩ = some (.int .u16 ((S.getD i (0, 0)).2 : Nat))) :
    Calls Yba.prog 4 #[.int .u64 ba, .int .u64 bb, .slice at0 L cap0, .slice at1 n cap1, .int .u32 nq] w fun e w' => e = .returned (.bool true) ∧ Below w.heap.size w w' := by
  have C := build_any ba bb at0 at1 L cap0 n cap1 l S w hL hl hx hin hn hn0 hS hb16 hin1
  have HC : Hid (Calls Yba.prog 7 #[.int .u64 ba, .int .u64 bb, .slice at0 L cap0, .slice at1 n cap1] w fun e w' => BuildPost ba bb L n l S w e w') := C
  have HSh : Hid (Shape n L l (flTo L S l n) (spF L S) (spT L S) (spA L S l)) := by have := shape_of L S l hl (by omega) (by omega) (by omega); rw [hS] at this; exact this
  have HAl : Hid (spA L S l n ≤ 262144) := HSh.out.flle
  have g1 : ¬ (1024 : Int) < L := by omega
  have g2 : ¬ (256 : Int) < n := by omega
  have g3 : ((n : Int) == 0) = false := by simp; omega
  have HX : Hid (∀ x ∈ flTo L S l n, x < 65536) := fun x hxx => hx x (mem_flTo L S l n x hxx)
  clear C hin hin1 hb16 hS hx hl hL hn hn0
  go_enter Yba.func4, Yba.ntmps4
  go_wp2_with fail
  refine HC.out.mono ?_
  rintro e w2 ⟨TX, B, g, tp, gs, ga, gp, gf, cf, gr, cr, A, Z, rfl, rA, rZ, lA, lZ, hB⟩
  have HBu : Hid (Built w w2 l S L n TX B g tp gs ga gp gf gr A Z) := hB
  clear hB HC
  obtain ⟨tot, htot⟩ : ∃ tot, tot = spA L S l n := ⟨_, rfl⟩
  rw [← htot] at HAl ⊢
  have HTot : Hid (tot = spA L S l n) := htot
  obtain ⟨k, hk⟩ : ∃ k, k = nq % (tot + 1) := ⟨_, rfl⟩
  have hk1 : k ≤ tot := by have := Nat.mod_lt nq (show 0 < tot + 1 by omega); omega
  have rk : (nq : Int) % ((tot : Int) + 1) = k := by rw [show ((tot : Int) + 1) = ((tot + 1 : Nat) : Int) from rfl, ← Int.natCast_emod, ← hk]
  have q1 : (tot : Int) ≤ 262144 := by have := HAl.out; omega
  have q2 : (k : Int) ≤ tot := by omega
  have Hk : Hid (k ≤ tot) := hk1
  clear htot hk hk1
  go_wp2
  obtain ⟨fl, hfl⟩ : ∃ fl, fl = flTo L S l n := ⟨_, rfl⟩
  obtain ⟨d, hd⟩ : ∃ d, d = tot - k := ⟨_, rfl⟩
  have hdi : (tot : Int) - k = d := by omega
  have Hd : Hid (d = tot - k ∧ k ≤ tot) := ⟨hd, Hk.out⟩
  have HFl : Hid (fl = flTo L S l n) := hfl
  have HFlen : Hid (fl.length = tot) := by show fl.length = tot; rw [hfl, HTot.out]; rfl
  rw [hdi]
  obtain ⟨W3, hW3⟩ : ∃ W3, W3 = ((w2.alloc (.cells #[.pointer (some ⟨TX, 0, none⟩), .slice (some ⟨gs, 0, none⟩) n n, .slice (some ⟨ga, 0, none⟩) n n, .slice (some ⟨gp, 0, none⟩) n n, .int .i64 (tot : Nat)] 31)).alloc (.cells #[.int .u64 A, .int .u64 Z] 36)).alloc (.cells #[.int .u64 0, .int .u64 0] 36) := ⟨_, rfl⟩
  rw [← hW3]
  obtain ⟨f1, f2, f3, f4⟩ := three_new w2 (.cells #[.pointer (some ⟨TX, 0, none⟩), .slice (some ⟨gs, 0, none⟩) n n, .slice (some ⟨ga, 0, none⟩) n n, .slice (some ⟨gp, 0, none⟩) n n, .int .i64 (tot : Nat)] 31) (.cells #[.int .u64 A, .int .u64 Z] 36) (.cells #[.int .u64 0, .int .u64 0] 36)
  have HR3 : Hid (W3.heap[w2.heap.size]? = some (.cells #[.pointer (some ⟨TX, 0, none⟩), .slice (some ⟨gs, 0, none⟩) n n, .slice (some ⟨ga, 0, none⟩) n n, .slice (some ⟨gp, 0, none⟩) n n, .int .i64 (tot : Nat)] 31 (0, 0))) := by rw [hW3]; exact f1
  have HB3 : Hid (W3.heap[w2.heap.size + 1]? = some (.cells #[.int .u64 A, .int .u64 Z] 36 (0, 0))) := by rw [hW3]; exact f2
  have HH3 : Hid (W3.heap[w2.heap.size + 1 + 1]? = some (.cells #[.int .u64 0, .int .u64 0] 36 (0, 0))) := by rw [hW3]; exact f3
  have HBe3 : Hid (Below w2.heap.size w2 W3) := by rw [hW3]; exact ⟨f4.os, f4.tape, f4.output, f4.size, f4.block⟩
  clear f1 f2 f3 f4 hW3 hfl hd hdi rA rZ rk
  obtain ⟨hb, hhb⟩ : ∃ q, w2.heap.size + 1 + 1 = q := ⟨_, rfl⟩
  rw [hhb] at HH3 ⊢
  obtain ⟨bs, hbs⟩ : ∃ q, w2.heap.size + 1 = q := ⟨_, rfl⟩
  rw [hbs] at HB3 ⊢
  obtain ⟨rb, hrb⟩ : ∃ q, w2.heap.size = q := ⟨_, rfl⟩
  rw [hrb] at HR3 ⊢
  have HO : Hid (rb = w2.heap.size ∧ bs = w2.heap.size + 1 ∧ hb = w2.heap.size + 2) := ⟨by omega, by omega, by omega⟩
  clear hhb hbs hrb
  go_loopw [17] (fun vi wr => ∃ i : Nat, d ≤ i ∧ i ≤ tot ∧ vi = .int .i64 i ∧ wr.heap[hb]? = some (.cells #[.int .u64 (hz A 0 ((fl.drop d).take (i - d)) : Nat), .int .u64 (hz Z 0 ((fl.drop d).take (i - d)) : Nat)] 36 (0, 0)) ∧ Below hb W3 wr) (fun i _ => tot - (intOf i).toNat)
  case atStart => exact ⟨d, Nat.le_refl _, by have := Hd.out; omega, rfl, by rw [Nat.sub_self]; exact HH3.out, Below.refl _ _⟩
  case round =>
    obtain ⟨i, hi1, hi2, rfl, hhe, hbe⟩ := hrel
    obtain ⟨FL, hFL⟩ : ∃ FL, FL = (fl.drop d).take (i - d) := ⟨_, rfl⟩
    rw [← hFL] at hhe
    have HFL : Hid (FL = (fl.drop d).take (i - d)) := hFL
    have Hi : Hid (d ≤ i ∧ i ≤ tot) := ⟨hi1, hi2⟩
    have HHe : Hid (wr.heap[hb]? = some (.cells #[.int .u64 (hz A 0 FL : Nat), .int .u64 (hz Z 0 FL : Nat)] 36 (0, 0))) := hhe
    have HBe : Hid (Below hb W3 wr) := hbe
    have oo := HO.out
    have hRw : wr.heap[rb]? = some (.cells #[.pointer (some ⟨TX, 0, none⟩), .slice (some ⟨gs, 0, none⟩) n n, .slice (some ⟨ga, 0, none⟩) n n, .slice (some ⟨gp, 0, none⟩) n n, .int .i64 (tot : Nat)] 31 (0, 0)) := (hbe.block rb (by omega)).trans HR3.out
    have r4 : wr.cell? ⟨rb, 4, none⟩ = some (.int .i64 (tot : Nat)) := cell_of_block hRw 4
    have HRw : Hid (wr.heap[rb]? = some (.cells #[.pointer (some ⟨TX, 0, none⟩), .slice (some ⟨gs, 0, none⟩) n n, .slice (some ⟨ga, 0, none⟩) n n, .slice (some ⟨gp, 0, none⟩) n n, .int .i64 (tot : Nat)] 31 (0, 0))) := hRw
    clear hFL hi1 hi2 hhe hbe hRw oo
    by_cases hlt : (i : Int) < tot
    · have oo := HO.out
      have bu := HBu.out
      have hv : fl.getD i 0 < 65536 := by
        have h1 := HFlen.out
        rw [List.getD_eq_getElem?_getD, List.getElem?_eq_getElem (by omega)]
        exact HX.out _ (by rw [← HFl.out]; exact List.getElem_mem _)
      have c0 : wr.cell? ⟨bs, 0, none⟩ = some (.int .u64 A) := (HBe.out.cell (by show bs < hb; omega)).trans (cell_of_block HB3.out 0)
      have c1 : wr.cell? ⟨bs, 1, none⟩ = some (.int .u64 Z) := (HBe.out.cell (by show bs < hb; omega)).trans (cell_of_block HB3.out 1)
      have d0 : wr.cell? ⟨hb, 0, none⟩ = some (.int .u64 (hz A 0 FL : Nat)) := cell_of_block HHe.out 0
      have d1 : wr.cell? ⟨hb, 1, none⟩ = some (.int .u64 (hz Z 0 FL : Nat)) := cell_of_block HHe.out 1
      have d2 : wr.frozen? ⟨hb, 0, none⟩ = false := frozen_of_block HHe.out
      have d3 : wr.frozen? ⟨hb, 1, none⟩ = false := frozen_of_block HHe.out
      have cf0 : wr.cell? ⟨gf, i, none⟩ = some (.int .i32 (fl.getD i 0 : Nat)) := by
        have h1 := bu.far.1
        have h2 := HTot.out
        rw [(HBe.out.cell (p := ⟨gf, i, none⟩) (by show gf < hb; omega)), (HBe3.out.cell (p := ⟨gf, i, none⟩) h1), HFl.out]
        exact bu.flat i (by omega)
      obtain ⟨v, hvv⟩ : ∃ v, v = fl.getD i 0 := ⟨_, rfl⟩
      rw [← hvv] at cf0 hv
      have HV : Hid (v = fl.getD i 0) := hvv
      have HS5 : Hid (wr.cell? ⟨bs, 0, none⟩ = some (.int .u64 A) ∧ wr.cell? ⟨bs, 1, none⟩ = some (.int .u64 Z) ∧ wr.cell? ⟨hb, 0, none⟩ = some (.int .u64 (hz A 0 FL : Nat)) ∧ wr.cell? ⟨hb, 1, none⟩ = some (.int .u64 (hz Z 0 FL : Nat)) ∧ wr.cell? ⟨gf, i, none⟩ = some (.int .i32 (v : Nat))) := ⟨c0, c1, d0, d1, cf0⟩
      have HLt : Hid (bs < wr.heap.size ∧ hb < wr.heap.size ∧ gf < wr.heap.size) := by have h1 := lt_of_heap HHe.out; have h2 := bu.far.1; exact ⟨by omega, h1, by omega⟩
      have lh1 := hz0_lt A FL
      have lh2 := hz0_lt Z FL
      have j0 : (0 : Int) ≤ i := by omega
      clear c0 c1 d0 d1 d2 d3 cf0 hvv bu oo
      go_wp2
      refine wp_region_noPanic ?_
      refine wp_region_G (fun w' => w'.cell? ⟨bs, 0, none⟩ = some (.int .u64 A) ∧ w'.cell? ⟨bs, 1, none⟩ = some (.int .u64 Z) ∧ w'.cell? ⟨hb, 0, none⟩ = some (.int .u64 (hz A 0 FL : Nat)) ∧ w'.cell? ⟨hb, 1, none⟩ = some (.int .u64 (hz Z 0 FL : Nat)) ∧ w'.cell? ⟨gf, i, none⟩ = some (.int .i32 (v : Nat))) 7 (by kernel_rfl) HS5.out (fun hHeld => ?_)
      refine anyG_take (i := 0) 9 (v := ?_) rfl (by kernel_rfl) (by kernel_rfl) (by kernel_rfl) (by kernel_rfl) (by kernel_rfl) (fun _ _ _ h => h) (Or.inl ⟨by rfl, ?_⟩) (by assumption) ?_
      rotate_left
      · (intro w hSw; (try dsimp only at hSw); go_simp; all_goals (with_reducible rfl))
      try simp only [Act.put, List.setIfInBounds_toArray, List.set_cons_zero, List.set_cons_succ]
      refine anyG_take (i := 1) 9 (v := ?_) rfl (by kernel_rfl) (by kernel_rfl) (by kernel_rfl) (by kernel_rfl) (by kernel_rfl) (fun _ _ _ h => h) (Or.inl ⟨by rfl, ?_⟩) (by assumption) ?_
      rotate_left
      · (intro w hSw; (try dsimp only at hSw); go_simp; all_goals (with_reducible rfl))
      try simp only [Act.put, List.setIfInBounds_toArray, List.set_cons_zero, List.set_cons_succ]
      refine anyG_take (i := 2) 9 (v := ?_) rfl (by kernel_rfl) (by kernel_rfl) (by kernel_rfl) (by kernel_rfl) (by kernel_rfl) (fun _ _ _ h => h) (Or.inl ⟨by rfl, ?_⟩) (by assumption) ?_
      rotate_left
      · (intro w hSw; (try dsimp only at hSw); go_simp; all_goals (with_reducible rfl))
      try simp only [Act.put, List.setIfInBounds_toArray, List.set_cons_zero, List.set_cons_succ]
      refine anyG_take (i := 3) 9 (v := ?_) rfl (by kernel_rfl) (by kernel_rfl) (by kernel_rfl) (by kernel_rfl) (by kernel_rfl) (fun _ _ _ h => h) (Or.inl ⟨by rfl, ?_⟩) (by assumption) ?_
      rotate_left
      · (intro w hSw; (try dsimp only at hSw); go_simp; all_goals (with_reducible rfl))
      try simp only [Act.put, List.setIfInBounds_toArray, List.set_cons_zero, List.set_cons_succ]
      refine anyG_take (i := 4) 9 (v := ?_) rfl (by kernel_rfl) (by kernel_rfl) (by kernel_rfl) (by kernel_rfl) (by kernel_rfl) (fun _ _ _ h => h) (Or.inl ⟨by rfl, ?_⟩) (by assumption) ?_
      rotate_left
      · (intro w hSw; (try dsimp only at hSw); go_simp; all_goals (with_reducible rfl))
      try simp only [Act.put, List.setIfInBounds_toArray, List.set_cons_zero, List.set_cons_succ]
      refine anyG_take (i := 5) 9 (v := ?_) rfl (by kernel_rfl) (by kernel_rfl) (by kernel_rfl) (by kernel_rfl) (by kernel_rfl) (fun _ _ _ h => h) (Or.inl ⟨by rfl, ?_⟩) (by assumption) ?_
      rotate_left
      · (intro w hSw; (try dsimp only at hSw); go_simp; all_goals (with_reducible rfl))
      try simp only [Act.put, List.setIfInBounds_toArray, List.set_cons_zero, List.set_cons_succ]
      refine anyG_one (i := 6) rfl (by kernel_rfl) (fun K hK => ?_)
      go_simp
      refine (step_any A Z _ _ v _ lA lZ lh1 lh2 hv).mono ?_
      rintro e w5 ⟨rfl, hb5⟩
      dsimp only
      have hs5 := keep_b5 hb5 HLt.out HS5.out
      refine hK.out _ _ (fun _ => hs5) (fun _ => ?_)
      clear hK K hHeld hs5
      try simp only [Act.put, List.setIfInBounds_toArray, List.set_cons_zero, List.set_cons_succ]
      have hhe5 : w5.heap[hb]? = some (.cells #[.int .u64 (hz A 0 FL : Nat), .int .u64 (hz Z 0 FL : Nat)] 36 (0, 0)) := (hb5.block hb (by exact HLt.out.2.1)).trans HHe.out
      have HHe5 : Hid (w5.heap[hb]? = some (.cells #[.int .u64 (hz A 0 FL : Nat), .int .u64 (hz Z 0 FL : Nat)] 36 (0, 0))) := hhe5
      have HB5 : Hid (Below hb W3 w5) := HBe.out.drew.trans (hb5.mono (by have := HLt.out; show hb ≤ wr.heap.size; omega))
      have d0 : w5.cell? ⟨hb, 0, none⟩ = some (.int .u64 (hz A 0 FL : Nat)) := cell_of_block hhe5 0
      have d1 : w5.cell? ⟨hb, 1, none⟩ = some (.int .u64 (hz Z 0 FL : Nat)) := cell_of_block hhe5 1
      have d2 : w5.frozen? ⟨hb, 0, none⟩ = false := frozen_of_block hhe5
      have d3 : w5.frozen? ⟨hb, 1, none⟩ = false := frozen_of_block hhe5
      clear hhe5 hb5
      refine anyG_one (i := 7) rfl (by kernel_rfl) (fun K hK => ?_)
      go_simp
      refine hK.out _ _ (fun h => absurd h (by decide)) (fun _ => ?_)
      clear hK K d0 d1 d2 d3
      try simp only [Act.put, List.setIfInBounds_toArray, List.set_cons_zero, List.set_cons_succ]
      refine anyG_done (by kernel_rfl) ?_ _
      refine NoPanic.normal ?_
      clear lh1 lh2 r4
      go_wp2
      go_roundw
      case rel =>
        have eF : FL ++ [v] = (fl.drop d).take (i + 1 - d) := by
          have h1 := Hi.out
          have h3 := HFlen.out
          rw [HFL.out, show i + 1 - d = (i - d) + 1 by omega, List.take_succ_eq_append_getElem (by rw [List.length_drop]; omega), HV.out, List.getElem_drop, List.getD_eq_getElem?_getD, List.getElem?_eq_getElem (by omega)]
          simp only [Option.getD_some, show d + (i - d) = i by omega]
        have e1 := heap_setCell_same w5 hb 0 _ 36 (.int .u64 (am (mm (hz A 0 FL) A) (v + 1) : Nat)) HHe5.out
        have e2 := heap_setCell_same _ hb 1 _ 36 (.int .u64 (am (mm (hz Z 0 FL) Z) (v + 1) : Nat)) e1
        refine ⟨i + 1, by have := Hi.out; omega, by omega, by go_num, ?_, (HB5.out.setCell (Nat.le_refl _) _).setCell (Nat.le_refl _) _⟩
        rw [← eF, hz_snoc, hz_snoc, e2]
        simp
      case measure => simp [intOf]; omega
    · have ei : i = tot := by have := Hi.out; omega
      have eFL : FL = (fl.drop d).take k := by have h1 := Hd.out; rw [HFL.out, ei, show tot - d = k by omega]
      have oo := HO.out
      have bu := HBu.out
      have ap := bu.ap
      have hlw := lt_of_heap HHe.out
      have hbw : Below w2.heap.size w2 wr := HBe3.out.trans (HBe.out.mono (by omega))
      have kA : wr.cell? ⟨hb, 0, none⟩ = some (.int .u64 (pf A (fl.drop d) k : Nat)) := by have := cell_of_block HHe.out 0; rw [eFL] at this; exact this
      have kB : wr.cell? ⟨hb, 1, none⟩ = some (.int .u64 (pf Z (fl.drop d) k : Nat)) := by have := cell_of_block HHe.out 1; rw [eFL] at this; exact this
      have r0 : wr.cell? ⟨rb, 0, none⟩ = some (.pointer (some ⟨TX, 0, none⟩)) := cell_of_block HRw.out 0
      have r1 : wr.cell? ⟨rb, 1, none⟩ = some (.slice (some ⟨gs, 0, none⟩) n n) := cell_of_block HRw.out 1
      have r2 : wr.cell? ⟨rb, 2, none⟩ = some (.slice (some ⟨ga, 0, none⟩) n n) := cell_of_block HRw.out 2
      have r3 : wr.cell? ⟨rb, 3, none⟩ = some (.slice (some ⟨gp, 0, none⟩) n n) := cell_of_block HRw.out 3
      have hF3 : Fpr wr.drew B g 1 A Z 0 := (bu.fpr.below' hbw).below' ((Below.refl _ _).drew)
      have hRun3 : Run wr.drew TX B tp gs ga gp n L (L + 1) l fl (spF L S) (spT L S) (spA L S l) A Z := by rw [HFl.out]; exact bu.run.same (fun q => q < w2.heap.size) ap.lt (fun q hq => hbw.block q hq)
      have hAp3 : Apart wr.drew B g TX tp gs ga gp := ⟨by obtain ⟨a1, a2, a3, a4, a5⟩ := ap.lt; have hlt3 : w2.heap.size ≤ wr.heap.size := hbw.size; exact ⟨Nat.lt_of_lt_of_le a1 hlt3, Nat.lt_of_lt_of_le a2 hlt3, Nat.lt_of_lt_of_le a3 hlt3, Nat.lt_of_lt_of_le a4 hlt3, Nat.lt_of_lt_of_le a5 hlt3⟩, ap.nB, ap.ng⟩
      have hSh : Shape n L l fl (spF L S) (spT L S) (spA L S l) := by rw [HFl.out]; exact HSh.out
      have cT := tail_any TX B g 1 0 tp gs ga gp n L (L + 1) k l fl (spF L S) (spT L S) (spA L S l) A Z wr.drew hF3 (by omega) lA lZ hRun3 hSh hAp3 (by rw [HFlen.out]; exact Hk.out)
      rw [HFlen.out, show tot - k = d from Hd.out.1.symm] at cT
      obtain ⟨ra, hra⟩ : ∃ ra, ra = pf A (fl.drop d) k := ⟨_, rfl⟩
      obtain ⟨rz, hrz⟩ : ∃ rz, rz = pf Z (fl.drop d) k := ⟨_, rfl⟩
      rw [← hra] at kA cT
      rw [← hrz] at kB cT
      have HCall : Hid (Calls Yba.prog 10 #[.agg #[.pointer (some ⟨TX, 0, none⟩), .slice (some ⟨gs, 0, none⟩) n n, .slice (some ⟨ga, 0, none⟩) n n, .slice (some ⟨gp, 0, none⟩) n n, .int .i64 (tot : Nat)], .int .i64 k] wr.drew fun e w' => e = .returned (.agg #[.int .u64 (ra : Nat), .int .u64 (rz : Nat)]) ∧ ∃ g' cap' n', Fpr w' B g' cap' A Z n' ∧ n' < 1000000 ∧ (g' = g ∨ wr.drew.heap.size ≤ g') ∧ But B g wr.drew w') := cT
      have HLt : Hid (rb < wr.heap.size ∧ rb ≠ B ∧ rb ≠ g ∧ hb < wr.heap.size ∧ hb ≠ B ∧ hb ≠ g) := by have h1 := bu.fpr.ltB; have h2 := bu.fpr.ltg; exact ⟨by omega, by omega, by omega, hlw, by omega, by omega⟩
      have HBw : Hid (Below w.heap.size w wr) := bu.bel.trans (hbw.mono bu.bel.size)
      have HLow : Hid (w.heap.size ≤ B ∧ w.heap.size ≤ g) := bu.low
      have HS : Hid (wr.cell? ⟨rb, 0, none⟩ = some (.pointer (some ⟨TX, 0, none⟩)) ∧ wr.cell? ⟨rb, 1, none⟩ = some (.slice (some ⟨gs, 0, none⟩) n n) ∧ wr.cell? ⟨rb, 2, none⟩ = some (.slice (some ⟨ga, 0, none⟩) n n) ∧ wr.cell? ⟨rb, 3, none⟩ = some (.slice (some ⟨gp, 0, none⟩) n n) ∧ wr.cell? ⟨rb, 4, none⟩ = some (.int .i64 (tot : Nat)) ∧ wr.cell? ⟨hb, 0, none⟩ = some (.int .u64 (ra : Nat)) ∧ wr.cell? ⟨hb, 1, none⟩ = some (.int .u64 (rz : Nat))) := ⟨r0, r1, r2, r3, r4, kA, kB⟩
      clear hra hrz cT hSh hAp3 hRun3 hF3 r0 r1 r2 r3 kA kB hbw hlw ap bu oo eFL ei
      go_wp2
      clear r4
      go_region_held3 (fun w' => w'.cell? ⟨rb, 0, none⟩ = some (.pointer (some ⟨TX, 0, none⟩)) ∧ w'.cell? ⟨rb, 1, none⟩ = some (.slice (some ⟨gs, 0, none⟩) n n) ∧ w'.cell? ⟨rb, 2, none⟩ = some (.slice (some ⟨ga, 0, none⟩) n n) ∧ w'.cell? ⟨rb, 3, none⟩ = some (.slice (some ⟨gp, 0, none⟩) n n) ∧ w'.cell? ⟨rb, 4, none⟩ = some (.int .i64 (tot : Nat)) ∧ w'.cell? ⟨hb, 0, none⟩ = some (.int .u64 (ra : Nat)) ∧ w'.cell? ⟨hb, 1, none⟩ = some (.int .u64 (rz : Nat)))
        (first | exact HS.out | exact keep_head hbut4 HLt.out HS.out)
        (first | (go_at_call 10; refine HCall.out.mono ?_; rintro e w4 ⟨rfl, g4, cap4, n4, hF4, hn4, hg4, hbut4⟩))
      have HB4 : Hid (Below w.heap.size w w4) := HBw.out.drew.trans (hbut4.below (by show w.heap.size ≤ wr.heap.size; exact HBw.out.size) HLow.out.1 HLow.out.2)
      clear hF4 hbut4 hg4 hn4
      go_wp2
      go_ret
      exact ⟨rfl, HB4.out⟩

#print axioms tail_walk
end Go.Proofs.Ybulkese
