/-
  LawS0280CScript: the card.
-/
import Derived.Test.YbulketuFmtTold
import Derived.Test.YbulketuFmtScriptWalk
import Derived.OpenShut
import Derived.ChangeOld
import Derived.Below
namespace Go.Proofs.YbulketuFmt
open Go.ChangeShapes Go.WideShapes Go.ChangeAt Go.RowKit Go.Kit
open Go.Extern.Stop Go.Stop Go.Extern

set_option maxRecDepth 100000 in
theorem lawS0280CScript.lifted (os : Os) (started : os.Started) (H : Type) (enc : TypeId × Value → H) :
    ReturnsInTold none {} Ybaf.checked os 8 .any Input.okWide ((OpenSpec.ofChange Rows.lawS0280CScriptSpec).preRow enc Ybaf.prog Ybaf.f8 [] false []) (fun F => ((OpenSpec.ofChange Rows.lawS0280CScriptSpec).at F).post enc Ybaf.prog Ybaf.f8 false true false false) (aloneAtReturn Ybaf.prog) nothingAlways := by
  refine returnsInTold_of_row (C := Ybaf.checked) (s := OpenSpec.ofChange Rows.lawS0280CScriptSpec) (by kernel_rfl) Ybaf.own started (by kernel_rfl) Ybaf.func8
    (OpenSpec.witness_stopped (enc := enc) (C := Ybaf.checked) false ⟨#[], #[.int .i64 1, .slice none 0 0], []⟩ 8 (by kernel_rfl) (by kernel_rfl) (by kernel_rfl) (by kernel_rfl)) ?_
  intro F W base args ds gs before _ hF hval0 hW _ _ _ _ _
  have hval : ∀ (j : Nat) t v, Ybaf.f8.params[j]? = some t → args[j]? = some v → Value.okWide Ybaf.prog W .any base t v := hval0
  have hW' := hW
  obtain ⟨p, q, hA0, hV, rfl, hfz, hnd⟩ := hW
  have hA : DataW.TrodAll enc Ybaf.prog W 0 (fun _ => true) true Ybaf.f8.params.toList args.toList ds p := hA0
  rw [Ybaf.params8] at hA hval
  obtain ⟨v0, v1, d0, d1, p0, p1, rfl, rfl, rfl, h0, h1⟩ := trodAll_two hA
  obtain ⟨rfl, rfl⟩ := trodVars_none hV
  obtain ⟨a0, rfl, rfl, rfl, w0⟩ := open_int Ybaf.underlying2 (hval 0 2 v0 rfl rfl) h0
  obtain ⟨a1, len, cap, rfl⟩ := okWide_slice Ybaf.underlying53 (hval 1 53 v1 rfl rfl)
  have k1 := h1
  have lt1 : ∀ x ∈ p1, x.block < W.heap.size := by obtain ⟨m, hm⟩ := k1; exact DataW.trod_lt m _ _ _ hm
  obtain ⟨hlen, hin⟩ : len ≤ 9223372036854775807 ∧ (0 < len → ∃ b off, a1 = some ⟨b, off, none⟩ ∧ b < W.heap.size ∧ ∀ i, i < len → ∃ x : Int, W.cell? ⟨b, off + i, none⟩ = some (.int .i64 x) ∧ -9223372036854775808 ≤ x ∧ x < 9223372036854775808) := by
    obtain ⟨fuel, hf⟩ := h1
    rcases open_ints Ybaf.underlying53 Ybaf.underlying2 (by kernel_rfl) hf with ⟨hcs, _⟩ | ⟨x, l, c, zs, hcs, _, hl, hm, hz, _, hcell, hwz⟩
    · simp [Value.cells] at hcs
      obtain ⟨rfl, rfl, rfl⟩ := hcs
      exact ⟨by omega, fun h => absurd h (by omega)⟩
    · simp [Value.cells] at hcs
      obtain ⟨rfl, rfl, rfl⟩ := hcs
      have hz' : zs.length = cap := by simpa using hz
      have hm' : cap ≤ 9223372036854775807 := hm
      refine ⟨by omega, fun h0 => ?_⟩
      obtain ⟨b, off, rfl, hc⟩ := ints_at hcell (by omega)
      refine ⟨b, off, rfl, World.block_lt_of_cell? W _ (hc 0 (by omega)), fun i hi => ⟨_, hc i (by omega), ?_⟩⟩
      have hi' : i < zs.length := by omega
      have e1 : zs.getD i 0 = zs[i] := by simp [List.getD_eq_getElem?_getD, hi']
      rw [e1]
      exact i64_bounds (hwz _ (List.getElem_mem hi'))
  clear hA0 hval0
  obtain ⟨b00, b01⟩ := i64_bounds w0
  refine (script_walk a0 a1 len cap W b01 b00 hlen hin).mono fun e W' ⟨he, hx⟩ => ?_
  subst he
  have bel : Below W.heap.size W W' := ⟨hx.os, hx.tape, hx.output, hx.size, hx.block⟩
  exact ⟨_, rfl, _, _, _, [], _, [], hW', trodAll_mk1 (shut_bool Ybaf.underlying4 _), trodAll_cons_mk (shut_int Ybaf.underlying2 w0) (trodAll_cons_mk (Below.trod Ybaf.laidOut (by kernel_rfl) (of_decide_eq_true (by kernel_rfl)) k1 bel lt1) trodAll_mk0), rfl, bel.frame _, fun h => by cases h⟩

theorem lawS0280CScript.proved : Rows.LawS0280CScriptToldSaid :=
  Claim7.holds_of_told_any 8 Ybaf.f8 "fmt.Sprintf" [] [] _ _ _ (by kernel_rfl) rfl rfl rfl Ybaf.laidOut (by kernel_rfl) rfl ⟨rfl, rfl, rfl, rfl, rfl, rfl, rfl⟩ rfl rfl (by kernel_rfl) (by kernel_rfl) Ybaf.func8 (by kernel_rfl)
    (of_decide_eq_true (by kernel_rfl)) (of_decide_eq_true (by kernel_rfl)) Ybaf.stops.symm rfl Ybaf.stopKnobs.symm (by kernel_rfl)
    (by kernel_rfl) (by kernel_rfl) (by kernel_rfl) (by kernel_rfl) (by kernel_rfl) (by kernel_rfl) (by kernel_rfl) (by kernel_rfl) (by kernel_rfl) rfl (by kernel_rfl) rfl rfl
    rfl rfl
    rfl (by kernel_rfl) (by kernel_rfl) (by kernel_rfl) (by decide) (by kernel_rfl)
    (OpenClaim.moreEntering_of (by kernel_rfl) (by kernel_rfl) (by kernel_rfl) (by kernel_rfl) (by kernel_rfl) (by kernel_rfl) (by kernel_rfl) (by kernel_rfl) (by kernel_rfl) (by kernel_rfl))
    ⟨_, WideRow.started_initial, Ybaf.quiet _⟩
    (fun os started _ H enc _ => lawS0280CScript.lifted os started H enc)

end Go.Proofs.YbulketuFmt
