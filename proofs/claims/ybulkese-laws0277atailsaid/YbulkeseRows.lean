/-
  No cell of these rows narrows 'for every input' (looked for: loops, veiled, ifaces, maps, wideKeys, modest, calm, conditions, laid).
  DERIVED. THE GIVEN ROWS OF THIS SEAT. 4 by the template 'for every input the law returns true; each argument reads behind the call as it read before'; 0 by the template 'total and deterministic' (their statements: YbulkeseTotals.lean).
  GIVEN WITH THE SEED: the statements are not yours to turn. If you find one false, say at which input.
  Laid BY PROGRAM, IN A SANDBOX (cutbox-rows.mjs): the forced cells as the released guide's own fill.sh prints them over the translation 0d318612b8a393e1… (all of the seat's roots in one cut). By AI agents, Wed Nov 11 2026. No macro, syntax, notation, axiom, sorry.
-/
import Derived.Test.YbulkeseChecked
import GoSem.Claim
import GoSem.ClaimJoined
import GoSem.ClaimMapViews
import Derived.JoinedTies
import Derived.KernelRfl
namespace Go.Proofs.Ybulkese
/- THE CELL 'sum', in the pinned program and in every row, IS THE sha256 OF THE DUMP (.gsa) THAT YbulkeseProg.lean LOADS. Nothing in Lean hashes anything: it is a label: what it is worth is what the hold of that sum in a sandbox is worth. -/
noncomputable def Yba.pinned : Pinned := { name := "ybulkese", sum := "0d318612b8a393e1b930db7cca0ad17a66eb577f3206fdf0cc07408c23b7bdce", checked := Yba.checked }
namespace Rows
def none {H : Type} : Left H := { results := [], args := [] }

/-- 'manifest.LawS0277AHead': WHATEVER THE INPUT: true; the input reads as it did. -/
def lawS0277AHeadSpec : ChangeSpec := { name := "lawS0277AHead", fn := fun _ => fun
  | [d1, d2, d3, d4, d5] => { results := [.lit (.bool true)], args := [d1, d2, d3, d4, d5] }
  | _ => none }
def lawS0277AHeadRow : OpenClaim := { program := "ybulkese", sum := "0d318612b8a393e1b930db7cca0ad17a66eb577f3206fdf0cc07408c23b7bdce", func := "example.com/acorn-woodpecker/acorn-woodpecker/internal/manifest.LawS0277AHead", spec := "lawS0277AHead", unfollowed := true, recurses := true, apart := false }
def LawS0277AHeadSaid : Prop := lawS0277AHeadRow.holds Yba.pinned (OpenSpec.ofChange lawS0277AHeadSpec)

/-- ITS FALSE NEIGHBOUR: 'it returns false'. Refute it at one input. -/
def lawS0277AHeadWrong : ChangeSpec := { name := "lawS0277AHead", fn := fun _ => fun
  | [d1, d2, d3, d4, d5] => { results := [.lit (.bool false)], args := [d1, d2, d3, d4, d5] }
  | _ => none }
def LawS0277AHeadWrongFalsely : Prop := lawS0277AHeadRow.holds Yba.pinned (OpenSpec.ofChange lawS0277AHeadWrong)

/-- 'manifest.LawS0277ATail': WHATEVER THE INPUT: true; the input reads as it did. -/
def lawS0277ATailSpec : ChangeSpec := { name := "lawS0277ATail", fn := fun _ => fun
  | [d1, d2, d3, d4, d5] => { results := [.lit (.bool true)], args := [d1, d2, d3, d4, d5] }
  | _ => none }
def lawS0277ATailRow : OpenClaim := { program := "ybulkese", sum := "0d318612b8a393e1b930db7cca0ad17a66eb577f3206fdf0cc07408c23b7bdce", func := "example.com/acorn-woodpecker/acorn-woodpecker/internal/manifest.LawS0277ATail", spec := "lawS0277ATail", unfollowed := true, recurses := true, apart := false }
def LawS0277ATailSaid : Prop := lawS0277ATailRow.holds Yba.pinned (OpenSpec.ofChange lawS0277ATailSpec)

/-- ITS FALSE NEIGHBOUR: 'it returns false'. Refute it at one input. -/
def lawS0277ATailWrong : ChangeSpec := { name := "lawS0277ATail", fn := fun _ => fun
  | [d1, d2, d3, d4, d5] => { results := [.lit (.bool false)], args := [d1, d2, d3, d4, d5] }
  | _ => none }
def LawS0277ATailWrongFalsely : Prop := lawS0277ATailRow.holds Yba.pinned (OpenSpec.ofChange lawS0277ATailWrong)

/-- 'manifest.LawS0277BSlice': WHATEVER THE INPUT: true; the input reads as it did. -/
def lawS0277BSliceSpec : ChangeSpec := { name := "lawS0277BSlice", fn := fun _ => fun
  | [d1, d2, d3, d4, d5] => { results := [.lit (.bool true)], args := [d1, d2, d3, d4, d5] }
  | _ => none }
def lawS0277BSliceRow : OpenClaim := { program := "ybulkese", sum := "0d318612b8a393e1b930db7cca0ad17a66eb577f3206fdf0cc07408c23b7bdce", func := "example.com/acorn-woodpecker/acorn-woodpecker/internal/manifest.LawS0277BSlice", spec := "lawS0277BSlice", apart := false }
def LawS0277BSliceSaid : Prop := lawS0277BSliceRow.holds Yba.pinned (OpenSpec.ofChange lawS0277BSliceSpec)

/-- ITS FALSE NEIGHBOUR: 'it returns false'. Refute it at one input. -/
def lawS0277BSliceWrong : ChangeSpec := { name := "lawS0277BSlice", fn := fun _ => fun
  | [d1, d2, d3, d4, d5] => { results := [.lit (.bool false)], args := [d1, d2, d3, d4, d5] }
  | _ => none }
def LawS0277BSliceWrongFalsely : Prop := lawS0277BSliceRow.holds Yba.pinned (OpenSpec.ofChange lawS0277BSliceWrong)

/-- 'manifest.LawS0277BJoin': WHATEVER THE INPUT: true; the input reads as it did. -/
def lawS0277BJoinSpec : ChangeSpec := { name := "lawS0277BJoin", fn := fun _ => fun
  | [d1, d2, d3, d4, d5] => { results := [.lit (.bool true)], args := [d1, d2, d3, d4, d5] }
  | _ => none }
def lawS0277BJoinRow : OpenClaim := { program := "ybulkese", sum := "0d318612b8a393e1b930db7cca0ad17a66eb577f3206fdf0cc07408c23b7bdce", func := "example.com/acorn-woodpecker/acorn-woodpecker/internal/manifest.LawS0277BJoin", spec := "lawS0277BJoin", apart := false }
def LawS0277BJoinSaid : Prop := lawS0277BJoinRow.holds Yba.pinned (OpenSpec.ofChange lawS0277BJoinSpec)

/-- ITS FALSE NEIGHBOUR: 'it returns false'. Refute it at one input. -/
def lawS0277BJoinWrong : ChangeSpec := { name := "lawS0277BJoin", fn := fun _ => fun
  | [d1, d2, d3, d4, d5] => { results := [.lit (.bool false)], args := [d1, d2, d3, d4, d5] }
  | _ => none }
def LawS0277BJoinWrongFalsely : Prop := lawS0277BJoinRow.holds Yba.pinned (OpenSpec.ofChange lawS0277BJoinWrong)

end Rows
end Go.Proofs.Ybulkese
