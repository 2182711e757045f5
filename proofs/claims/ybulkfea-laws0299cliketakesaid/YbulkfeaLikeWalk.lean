/-
  LawS0299CLikeTake: the walk.
-/
import Derived.Test.YbulkfeaAddWalk
namespace Go.Proofs.Ybulkfea
open Go.RowKit

theorem Of.at {hs : List H1} {names : List ByteArray} {i : Nat} {s : ByteArray} (h : Of hs names) (hi : names[i]? = some s) : ∃ q, hs[i]? = some ⟨q, s, s.size⟩ := by
  have h1 : (hs.map (fun h => (h.s, h.v)))[i]? = some (s, (s.size : Int)) := by rw [h]; simp [hi]
  rw [List.getElem?_map] at h1
  cases hx : hs[i]? with
  | none => rw [hx] at h1; cases h1
  | some x =>
    rw [hx] at h1
    obtain ⟨q, t, v⟩ := x
    simp at h1
    obtain ⟨rfl, rfl⟩ := h1
    exact ⟨q, rfl⟩

theorem Of.length {hs : List H1} {names : List ByteArray} (h : Of hs names) : hs.length = names.length := by
  have := congrArg List.length h
  simpa using this

theorem IntsIn.below {w w' : World} {at0 : Option Addr} {len cap : Nat} {zs : List Int} (h : IntsIn w at0 len cap zs) (hb : Below w.heap.size w w') : IntsIn w' at0 len cap zs := by
  refine ⟨h.1, ?_⟩
  rcases h.2 with h | ⟨x, hx, hc⟩
  · exact .inl h
  · exact .inr ⟨x, hx, fun j u hj => (hb.cell (World.block_lt_of_cell? w _ (hc j u hj))).trans (hc j u hj)⟩

def NamesIn (w : World) (at0 : Option Addr) (len : Nat) (names : List ByteArray) : Prop :=
  0 < len → ∃ b off, at0 = some ⟨b, off, none⟩ ∧ b < w.heap.size ∧ ∀ i s, names[i]? = some s → w.cell? ⟨b, off + i, none⟩ = some (.string s)

theorem NamesIn.below {w w' : World} {at0 : Option Addr} {len : Nat} {names : List ByteArray} (h : NamesIn w at0 len names) (hb : Below w.heap.size w w') : NamesIn w' at0 len names := fun h0 => by
  obtain ⟨b, off, h1, h2, h3⟩ := h h0
  exact ⟨b, off, h1, Nat.lt_of_lt_of_le h2 hb.size, fun i s hs => (hb.cell h2).trans (h3 i s hs)⟩

/-- A new explanation behind mk and Clone. -/
theorem Ex.made {w w1 w2 : World} {rule : Int} {tr : Bool} {v f : Value} {n m : Nat} {hs : List H1} {zs : List Int} (h1 : w1.ownsRow w.heap.size 33 2 v n (hitCells hs)) (hq : ∀ h ∈ hs, w.heap.size ≤ h.q) (hp : Paths w1 hs) (b1 : Below w.heap.size w w1)
    (h2 : w2.ownsRow w1.heap.size 3 1 f m (zs.map (Value.int .i64))) (b2 : Below w1.heap.size w1 w2) :
    Ex (fun k => w.heap.size ≤ k ∧ k ≤ w2.heap.size) (w2.alloc (.cells #[v, .int .i64 rule, .bool tr, f, .int .i64 (-1)] 29)) w2.heap.size rule tr v f n m hs zs := by
  have s1 := b1.size
  have s2 := b2.size
  have F : Fr (fun _ => False) w1 (w2.alloc (.cells #[v, .int .i64 rule, .bool tr, f, .int .i64 (-1)] 29)) := (Fr.of_below b2).alloc _
  refine ⟨⟨by omega, Nat.le_refl _⟩, fun k hk => ?_, fun k hk => ?_, fun x hx => ?_, heap_alloc_new _ _, own_fr (h1.mono (Nat.zero_le _)) F (fun _ _ h => h), (h2.mono (Nat.zero_le _)).alloc _, fun x hx => ?_⟩
  · have := h1.lt k hk; omega
  · have := h2.lt k hk; omega
  · have := heap_lt (hp x hx); have := hq x hx; omega
  · rw [F.block x.q (heap_lt (hp x hx)) (fun h => h)]; exact hp x hx

theorem own_slice {w : World} {B : Nat} {e : TypeId} {size : Nat} {v : Value} {n : Nat} {xs : List Value} (h : w.ownsRow B e size v n xs) : ∃ a c, v = .slice a n c := by
  rcases h.2 with ⟨rfl, rfl⟩ | ⟨g, cap, cur, rfl, _⟩
  · exact ⟨_, _, rfl⟩
  · exact ⟨_, _, rfl⟩

theorem three_new (w : World) (o1 o2 o3 : Obj) : (((w.alloc o1).alloc o2).alloc o3).heap[w.heap.size]? = some o1 ∧ (((w.alloc o1).alloc o2).alloc o3).heap[w.heap.size + 1]? = some o2 ∧ (((w.alloc o1).alloc o2).alloc o3).heap[w.heap.size + 1 + 1]? = some o3 := by
  refine ⟨?_, ?_, ?_⟩
  · rw [alloc_old _ _ _ (by simp; omega), alloc_old _ _ _ (by simp)]; exact heap_alloc_new _ _
  · rw [alloc_old _ _ _ (by simp)]
    exact (show w.heap.size + 1 = (w.alloc o1).heap.size by simp) ▸ heap_alloc_new (w.alloc o1) o2
  · exact (show w.heap.size + 1 + 1 = ((w.alloc o1).alloc o2).heap.size by simp) ▸ heap_alloc_new ((w.alloc o1).alloc o2) o3

theorem Ex.read {φ : Nat → Prop} {w : World} {A : Nat} {rule : Int} {tr : Bool} {fv : Value} {n m g cap : Nat} {hs : List H1} {fs : List Int} (h : Ex φ w A rule tr (.slice (some ⟨g, 0, none⟩) n cap) fv n m hs fs) (i : Nat) (x : H1) (hi : hs[i]? = some x) (hlt : i < n) :
    w.cell? ⟨A, 0, none⟩ = some (.slice (some ⟨g, 0, none⟩) n cap) ∧ w.cell? ⟨g, i * 2, none⟩ = some (.slice (some ⟨x.q, 0, none⟩) 1 1) ∧ w.cell? ⟨g, i * 2 + 1, none⟩ = some (.iface 2 (.int .i64 x.v)) ∧ w.heap[x.q]? = some (.cells #[.iface 9 (.string x.s)] 20 (0, 0)) := by
  obtain ⟨r0, r1⟩ := hitCells_at hs i x hi
  exact ⟨h.cells.1, (h.hown.cellAt (i * 2) (by omega)).trans r0, (h.hown.cellAt (i * 2 + 1) (by omega)).trans r1, h.paths x (List.mem_of_getElem? hi)⟩

set_option maxRecDepth 100000 in
set_option maxHeartbeats 4000000 in
theorem like_walk (at0 at1 : Option Addr) (n c0 m c1 : Nat) (rule : Int) (tr : Bool) (key : ByteArray) (val : Int) (names : List ByteArray) (zs : List Int) (w : World)
    (hn : (n : Int) ≤ 1024) (hm : (m : Int) ≤ 1024) (hl : names.length = n) (h0 : NamesIn w at0 n names) (h1 : IntsIn w at1 m c1 zs) :
    Calls Yba.prog 4 #[.slice at0 n c0, .slice at1 m c1, .int .i64 rule, .bool tr, .string key, .int .i64 val] w fun e w' => e = .returned (.bool true) ∧ Below w.heap.size w w' := by
  have d1 : decide ((1024 : Int) < n) = false := by simp; omega
  have d2 : decide ((1024 : Int) < m) = false := by simp; omega
  have HL : Hid (names.length = n) := hl
  have H0 : Hid (NamesIn w at0 n names) := h0
  have H1 : Hid (IntsIn w at1 m c1 zs) := h1
  clear hl h0 h1
  go_enter Yba.func4, Yba.ntmps4
  go_wp2_with (go_at_call 5; refine (mk_any at0 n c0 names w hn HL.out H0.out).mono ?_; rintro e w1 ⟨v1, hs1, rfl, o1, of1, q1, p1, b1⟩; obtain ⟨a1, k1, rfl⟩ := own_slice o1; have M1 : Hid _ := And.intro o1 (And.intro of1 (And.intro q1 (And.intro p1 b1))); clear o1 of1 q1 p1 b1)
  go_wp2_with (go_at_call 6; refine (clone_any at1 m c1 zs w1 hm (H1.out.below M1.out.2.2.2.2)).mono ?_; rintro e w2 ⟨f1, rfl, o2, b2⟩; obtain ⟨e1, l1, rfl⟩ := own_slice o2; have M2 : Hid _ := And.intro o2 b2; clear o2 b2)
  have EA : Hid (Ex (fun k => w.heap.size ≤ k ∧ k ≤ w2.heap.size) (w2.alloc (.cells #[.slice a1 n k1, .int .i64 rule, .bool tr, .slice e1 m l1, .int .i64 (-1)] 29)) w2.heap.size rule tr (.slice a1 n k1) (.slice e1 m l1) n m hs1 zs) :=
    Ex.made M1.out.1 M1.out.2.2.1 M1.out.2.2.2.1 M1.out.2.2.2.2 M2.out.1 M2.out.2
  have B3 : Hid (Below w.heap.size w (w2.alloc (.cells #[.slice a1 n k1, .int .i64 rule, .bool tr, .slice e1 m l1, .int .i64 (-1)] 29))) :=
    (M1.out.2.2.2.2.trans (M2.out.2.mono M1.out.2.2.2.2.size)).alloc (Nat.le_trans M1.out.2.2.2.2.size M2.out.2.size) _
  have SA : Hid ((w2.alloc (.cells #[.slice a1 n k1, .int .i64 rule, .bool tr, .slice e1 m l1, .int .i64 (-1)] 29)).heap.size = w2.heap.size + 1 ∧ w.heap.size ≤ w2.heap.size) := ⟨by simp, Nat.le_trans M1.out.2.2.2.2.size M2.out.2.size⟩
  have OA : Hid (Of hs1 names) := M1.out.2.1
  generalize hw3 : (w2.alloc (.cells #[.slice a1 n k1, .int .i64 rule, .bool tr, .slice e1 m l1, .int .i64 (-1)] 29)) = w3 at EA B3 SA ⊢
  generalize hA : w2.heap.size = A at EA SA ⊢
  clear hw3 hA M1 M2
  refine (mk_any at0 n c0 names w3 hn HL.out (H0.out.below B3.out)).mono ?_
  rintro e w4 ⟨v1, hs2, rfl, o1, of1, q1, p1, b1⟩
  obtain ⟨a2, k2, rfl⟩ := own_slice o1
  have M1 : Hid _ := And.intro o1 (And.intro of1 (And.intro q1 (And.intro p1 b1)))
  clear o1 of1 q1 p1 b1
  go_wp2_with (go_at_call 6; refine (clone_any at1 m c1 zs w4 hm (H1.out.below (B3.out.trans (M1.out.2.2.2.2.mono B3.out.size)))).mono ?_; rintro e w5 ⟨f1, rfl, o2, b2⟩; obtain ⟨e2, l2, rfl⟩ := own_slice o2; have M2 : Hid _ := And.intro o2 b2; clear o2 b2)
  have EB : Hid (Ex (fun k => w3.heap.size ≤ k ∧ k ≤ w5.heap.size) (w5.alloc (.cells #[.slice a2 n k2, .int .i64 rule, .bool tr, .slice e2 m l2, .int .i64 (-1)] 29)) w5.heap.size rule tr (.slice a2 n k2) (.slice e2 m l2) n m hs2 zs) :=
    Ex.made M1.out.1 M1.out.2.2.1 M1.out.2.2.2.1 M1.out.2.2.2.2 M2.out.1 M2.out.2
  have B6 : Hid (Below w3.heap.size w3 (w5.alloc (.cells #[.slice a2 n k2, .int .i64 rule, .bool tr, .slice e2 m l2, .int .i64 (-1)] 29))) :=
    (M1.out.2.2.2.2.trans (M2.out.2.mono M1.out.2.2.2.2.size)).alloc (Nat.le_trans M1.out.2.2.2.2.size M2.out.2.size) _
  have SB : Hid ((w5.alloc (.cells #[.slice a2 n k2, .int .i64 rule, .bool tr, .slice e2 m l2, .int .i64 (-1)] 29)).heap.size = w5.heap.size + 1 ∧ w3.heap.size ≤ w5.heap.size) := ⟨by simp, Nat.le_trans M1.out.2.2.2.2.size M2.out.2.size⟩
  have OB : Hid (Of hs2 names) := M1.out.2.1
  generalize hw6 : (w5.alloc (.cells #[.slice a2 n k2, .int .i64 rule, .bool tr, .slice e2 m l2, .int .i64 (-1)] 29)) = w6 at EB B6 SB ⊢
  generalize hB : w5.heap.size = B at EB SB ⊢
  clear hw6 hB M1 M2
  -- add, on the first
  have sA := SA.out
  have sB := SB.out
  have hM : (if tr = true then m + 1 else m) ≤ 1025 := by cases tr <;> simp <;> omega
  have E7 : Ex (fun k => w.heap.size ≤ k ∧ (k ≤ A ∨ B < k)) (w6.alloc (.cells #[.iface 9 (.string key)] 20)) A rule tr (.slice a1 n k1) (.slice e1 m l1) n m hs1 zs :=
    (EA.out.fr (φ := fun _ => False) ((Fr.of_below B6.out).alloc _) (fun _ _ h => h)).mono (fun k _ hk => ⟨hk.1, .inl hk.2⟩)
  have EB7 : Hid (Ex (fun k => A < k ∧ k ≤ B) (w6.alloc (.cells #[.iface 9 (.string key)] 20)) B rule tr (.slice a2 n k2) (.slice e2 m l2) n m hs2 zs) :=
    (EB.out.fr (φ := fun _ => False) ((Fr.refl _ _).alloc _) (fun _ _ h => h)).mono (fun k _ hk => ⟨by omega, hk.2⟩)
  have B7 : Hid (Below w.heap.size w (w6.alloc (.cells #[.iface 9 (.string key)] 20))) := (B3.out.trans (B6.out.mono (by omega))).alloc (by omega) _
  refine (add_any E7 (fun k hk => ⟨by simp at hk; omega, .inr (by simp at hk; omega)⟩) (B + 1) key val ⟨by omega, .inr (by omega)⟩ (by rw [← sB.1]; exact heap_alloc_new _ _) (by omega) (by omega)).mono ?_
  rintro e w8 ⟨rfl, hv, fv, E8, F8⟩
  have EB8 : Hid (Ex (fun k => A < k ∧ k ≤ B) w8 B rule tr (.slice a2 n k2) (.slice e2 m l2) n m hs2 zs) := EB7.out.fr F8 (fun k hk h => by have h1 := hk.1; have h2 := hk.2; rcases h.2 with h3 | h3 <;> omega)
  have s8' : B + 2 ≤ w8.heap.size := by have := F8.size; simp at this; omega
  have S8 : Hid (B + 2 ≤ w8.heap.size) := s8'
  clear s8'
  have B8 : Hid (Below w.heap.size w w8) := B7.out.trans (F8.below (by simp; omega) (fun k hk h => by have h1 := h.1; omega))
  have EA8 : Hid (Ex (fun k => k ≤ A ∨ (B < k ∧ k < w8.heap.size)) w8 A rule tr hv fv (n + 1) (if tr = true then m + 1 else m) (hs1 ++ [⟨B + 1, key, val⟩]) (if tr = true then zs ++ [rule] else zs)) :=
    E8.mono (fun k hlt hk => by rcases hk.2 with h | h; exact .inl h; exact .inr ⟨h, hlt⟩)
  clear E7 E8 F8 EB7 EA EB B7 B6 B3 sA sB
  go_wp2_with fail
  -- take, on the second
  obtain ⟨t1, t2, t3⟩ := three_new w8 (.cells #[.iface 9 (.string key)] 20) (.cells #[.slice (some ⟨w8.heap.size, 0, none⟩) 1 1, .iface 2 (.int .i64 val)] 33) (.cells #[.int .i64 rule] 3)
  have s8 := S8.out
  have sA := SA.out
  have sB := SB.out
  have F9 : Fr (fun _ => False) w8 (((w8.alloc (.cells #[.iface 9 (.string key)] 20)).alloc (.cells #[.slice (some ⟨w8.heap.size, 0, none⟩) 1 1, .iface 2 (.int .i64 val)] 33)).alloc (.cells #[.int .i64 rule] 3)) := (((Fr.refl _ _).alloc _).alloc _).alloc _
  have E9 := (EB8.out.fr F9 (fun _ _ h => h)).mono (ψ := fun k => (A < k ∧ k ≤ B) ∨ w8.heap.size ≤ k) (fun k _ hk => .inl hk)
  refine (take_any E9 (fun k hk => .inr (Nat.le_trans F9.size hk)) (w8.heap.size + 1) (w8.heap.size + 1 + 1) w8.heap.size key val rule t2 t3 (.inr (Nat.le_refl _)) t1 (by omega) (by omega)).mono ?_
  rintro e w10 ⟨rfl, hvB, fvB, E10, F10⟩
  have EA10 := (EA8.out.fr F9 (fun _ _ h => h)).fr F10 (fun k hk h => by rcases hk with h1 | ⟨h1, h2⟩ <;> rcases h with ⟨h3, h4⟩ | h3 <;> omega)
  have B10 : Below w.heap.size w w10 := (B8.out.trans (F9.below (by omega) (fun _ _ h => h))).trans (F10.below (by have := F9.size; omega) (fun k hk h => by rcases h with ⟨h3, h4⟩ | h3 <;> omega))
  clear t1 t2 t3 F9 E9 F10 EA8 EB8 B8 S8 s8
  have hmm : ((if tr = true then m + 1 else m : Nat) : Int) ≤ 2000 := by omega
  generalize (if tr = true then m + 1 else m) = M at EA10 E10 hmm
  generalize (if tr = true then zs ++ [rule] else zs) = F at EA10 E10
  obtain ⟨ga, ca, rfl, _, _⟩ := EA10.hown.form (by omega)
  obtain ⟨gb, cb, rfl, _, _⟩ := E10.hown.form (by omega)
  obtain ⟨ea, la, rfl⟩ := own_slice EA10.fown
  obtain ⟨eb, lb, rfl⟩ := own_slice E10.fown
  obtain ⟨x0, _, _, x3, _⟩ := EA10.cells
  obtain ⟨y0, _, _, y3, _⟩ := E10.cells
  have HA : Hid _ := EA10
  have HB : Hid _ := E10
  have HW : Hid _ := B10
  clear EA10 E10 B10 sA sB hM
  go_wp2
  go_quiet ((go_at_call 9; exact Calls.quiet_of (equal_any _ _ M F _ HA.out.fown HB.out.fown hmm)))
  go_wp2_with fail
  clear x0 x3 y0 y3
  go_loopw [85] (fun i wr => ∃ k : Nat, k ≤ n ∧ i = .int .i64 k ∧ Below w10.heap.size w10 wr) (fun i _ => n - (intOf i).toNat)
  case atStart => exact ⟨0, Nat.zero_le _, rfl, ⟨rfl, rfl, rfl, Nat.le_refl _, fun _ _ => rfl⟩⟩
  case round =>
    obtain ⟨k, hk, rfl, hbel⟩ := hrel
    have HBr : Hid (Below w10.heap.size w10 wr) := hbel
    have EAr := HA.out.fr (φ := fun _ => False) (Fr.of_below hbel) (fun _ _ h => h)
    have EBr := HB.out.fr (φ := fun _ => False) (Fr.of_below hbel) (fun _ _ h => h)
    clear hbel
    by_cases hlt : (k : Int) < n
    · obtain ⟨b, off, rfl, hb, hc⟩ := H0.out (by omega)
      obtain ⟨s, hs⟩ : ∃ s, names[k]? = some s := ⟨_, List.getElem?_eq_getElem (by rw [HL.out]; omega)⟩
      have ck : wr.cell? ⟨b, off + k, none⟩ = some (.string s) := ((HW.out.trans (HBr.out.mono HW.out.size)).cell (by exact hb)).trans (hc k s hs)
      obtain ⟨qa, hqa⟩ := OA.out.at hs
      obtain ⟨qb, hqb⟩ := OB.out.at hs
      obtain ⟨x0, x1, x2, px⟩ := EAr.read k ⟨qa, s, s.size⟩ (by rw [List.getElem?_append_left (List.getElem?_eq_some_iff.1 hqa).1]; exact hqa) (by omega)
      have HBr2 : Hid _ := EBr
      have HPx : Hid _ := px
      have HQB : Hid (hs2[k]? = some ⟨qb, s, s.size⟩) := hqb
      have j0 : (0 : Int) ≤ k := by omega
      have j1 : (k : Int) < (n : Int) + 1 := by omega
      clear EAr EBr hc hs hqa hqb px
      go_wp2_with fail
      refine (hitis_any qa s s.size wr HPx.out).mono ?_
      rintro e w11 ⟨rfl, b11⟩
      have E11 := HBr2.out.fr (φ := fun _ => False) (Fr.of_below b11) (fun _ _ h => h)
      obtain ⟨y0, y1, y2, py⟩ := E11.read k ⟨qb, s, s.size⟩ (by rw [List.getElem?_append_left (List.getElem?_eq_some_iff.1 HQB.out).1]; exact HQB.out) (by omega)
      have HPy : Hid _ := py
      have HB11 : Hid (Below w10.heap.size w10 w11) := HBr.out.trans (b11.mono HBr.out.size)
      clear E11 b11 py x0 x1 x2 ck
      go_wp2_with fail
      refine (hitis_any qb s s.size w11 HPy.out).mono ?_
      rintro e w12 ⟨rfl, b12⟩
      have HB12 : Hid (Below w10.heap.size w10 w12) := HB11.out.trans (b12.mono HB11.out.size)
      clear b12 y0 y1 y2
      go_wp2
      go_roundw
      case rel => exact ⟨k + 1, by omega, by go_num, HB12.out⟩
      case measure => simp [intOf]; omega
    · have la1 : hs1.length = n := by rw [OA.out.length, HL.out]
      have lb1 : hs2.length = n := by rw [OB.out.length, HL.out]
      obtain ⟨x0, x1, x2, px⟩ := EAr.read n ⟨B + 1, key, val⟩ (by rw [List.getElem?_append_right (by omega), la1]; simp) (by omega)
      have HBr2 : Hid _ := EBr
      have HPx : Hid _ := px
      have LB : Hid (hs2.length = n) := lb1
      have j0 : (0 : Int) ≤ n := by omega
      have j1 : (n : Int) < (n : Int) + 1 := by omega
      clear EAr EBr px la1 lb1
      go_wp2_with fail
      refine (hitis_any _ key val wr HPx.out).mono ?_
      rintro e w11 ⟨rfl, b11⟩
      have E11 := HBr2.out.fr (φ := fun _ => False) (Fr.of_below b11) (fun _ _ h => h)
      obtain ⟨y0, y1, y2, py⟩ := E11.read n ⟨_, key, val⟩ (by rw [List.getElem?_append_right (by rw [LB.out]; omega), LB.out]; simp; rfl) (by omega)
      have HPy : Hid _ := py
      have HB11 : Hid (Below w10.heap.size w10 w11) := HBr.out.trans (b11.mono HBr.out.size)
      clear E11 b11 py x0 x1 x2
      go_wp2_with fail
      refine (hitis_any _ key val w11 HPy.out).mono ?_
      rintro e w12 ⟨rfl, b12⟩
      have HB12 : Hid (Below w10.heap.size w10 w12) := HB11.out.trans (b12.mono HB11.out.size)
      clear b12 y0 y1 y2
      go_wp2
      go_ret
      exact ⟨rfl, HW.out.trans (HB12.out.mono HW.out.size)⟩
end Go.Proofs.Ybulkfea
