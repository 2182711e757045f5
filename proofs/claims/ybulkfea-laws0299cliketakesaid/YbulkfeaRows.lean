/-
  No cell of these rows narrows 'for every input' (looked for: loops, veiled, ifaces, maps, wideKeys, modest, calm, conditions, laid).
  DERIVED. THE GIVEN ROWS OF THIS SEAT. 2 by the template 'for every input the law returns true; each argument reads behind the call as it read before'; 0 by the template 'total and deterministic' (their statements: YbulkfeaTotals.lean).
  GIVEN WITH THE SEED: the statements are not yours to turn. If you find one false, say at which input.
  Laid BY PROGRAM, IN A SANDBOX (cutbox-rows.mjs): the forced cells as the released guide's own fill.sh prints them over the translation 02d244c9ad843786… (all of the seat's roots in one cut). By AI agents, Wed Nov 11 2026. No macro, syntax, notation, axiom, sorry.
-/
import Derived.Test.YbulkfeaChecked
import GoSem.Claim
import GoSem.ClaimJoined
import GoSem.ClaimMapViews
import Derived.JoinedTies
import Derived.KernelRfl
namespace Go.Proofs.Ybulkfea
/- THE CELL 'sum', in the pinned program and in every row, IS THE sha256 OF THE DUMP (.gsa) THAT YbulkfeaProg.lean LOADS. Nothing in Lean hashes anything: it is a label: what it is worth is what the hold of that sum in a sandbox is worth. -/
noncomputable def Yba.pinned : Pinned := { name := "ybulkfea", sum := "02d244c9ad843786244b3e2bdd3279cad56511ed42131b7968ec9678893c788e", checked := Yba.checked }
namespace Rows
def none {H : Type} : Left H := { results := [], args := [] }

/-- 'ductile.LawS0299CAppend': WHATEVER THE INPUT: true; the input reads as it did. -/
def lawS0299CAppendSpec : ChangeSpec := { name := "lawS0299CAppend", fn := fun _ => fun
  | [d1, d2, d3, d4, d5, d6, d7] => { results := [.lit (.bool true)], args := [d1, d2, d3, d4, d5, d6, d7] }
  | _ => none }
def lawS0299CAppendRow : OpenClaim := { program := "ybulkfea", sum := "02d244c9ad843786244b3e2bdd3279cad56511ed42131b7968ec9678893c788e", func := "example.com/ductile/ductile.LawS0299CAppend", spec := "lawS0299CAppend", apart := false }
def LawS0299CAppendSaid : Prop := lawS0299CAppendRow.holds Yba.pinned (OpenSpec.ofChange lawS0299CAppendSpec)

/-- ITS FALSE NEIGHBOUR: 'it returns false'. Refute it at one input. -/
def lawS0299CAppendWrong : ChangeSpec := { name := "lawS0299CAppend", fn := fun _ => fun
  | [d1, d2, d3, d4, d5, d6, d7] => { results := [.lit (.bool false)], args := [d1, d2, d3, d4, d5, d6, d7] }
  | _ => none }
def LawS0299CAppendWrongFalsely : Prop := lawS0299CAppendRow.holds Yba.pinned (OpenSpec.ofChange lawS0299CAppendWrong)

/-- 'ductile.LawS0299CLikeTake': WHATEVER THE INPUT: true; the input reads as it did. -/
def lawS0299CLikeTakeSpec : ChangeSpec := { name := "lawS0299CLikeTake", fn := fun _ => fun
  | [d1, d2, d3, d4, d5, d6] => { results := [.lit (.bool true)], args := [d1, d2, d3, d4, d5, d6] }
  | _ => none }
def lawS0299CLikeTakeRow : OpenClaim := { program := "ybulkfea", sum := "02d244c9ad843786244b3e2bdd3279cad56511ed42131b7968ec9678893c788e", func := "example.com/ductile/ductile.LawS0299CLikeTake", spec := "lawS0299CLikeTake", apart := false }
def LawS0299CLikeTakeSaid : Prop := lawS0299CLikeTakeRow.holds Yba.pinned (OpenSpec.ofChange lawS0299CLikeTakeSpec)

/-- ITS FALSE NEIGHBOUR: 'it returns false'. Refute it at one input. -/
def lawS0299CLikeTakeWrong : ChangeSpec := { name := "lawS0299CLikeTake", fn := fun _ => fun
  | [d1, d2, d3, d4, d5, d6] => { results := [.lit (.bool false)], args := [d1, d2, d3, d4, d5, d6] }
  | _ => none }
def LawS0299CLikeTakeWrongFalsely : Prop := lawS0299CLikeTakeRow.holds Yba.pinned (OpenSpec.ofChange lawS0299CLikeTakeWrong)

end Rows
end Go.Proofs.Ybulkfea
