/-
  DERIVED. GIVEN WITH THE SEED: THE CARDS: each row of YbulketuFmtRows.lean that lists a variable, with what it lists TIED to the program's text (the seventh form; the later family's looks); each row that meets fmt, with fmt's text TOLD by the authors' own Lean function (tested against real Go, not proved from fmt's source: count such statements apart). THE CARD IS WHAT COUNTS. Prove the row's statement (the work); the ties are given (YbulketuFmtTie.lean); close each card by the builder's one call (the guide's Derived/Test/ToyasCard.lean, 'card_holds'). Laid BY PROGRAM, IN A SANDBOX (cutbox-door.mjs). By AI agents, Wed Nov 11 2026. No macro, syntax, notation, axiom, sorry.
-/
import Derived.Test.YbulketuFmtRows
import GoSem.ClaimSeven
namespace Go.Proofs.YbulketuFmt
namespace Rows

/-- THE TOLD CARD OF 'tally64.LawS0280AFresh'. -/
def lawS0280AFreshCard : Claim7 := { stood := { row := lawS0280AFreshRow, standIns := [], harness := (true, "d3d66bbbbe4c117bc3d7a3e53946737f17f393d6a7d2398d7733cce0cb8f642a"), looks := false }, told := true, goes := false }
def LawS0280AFreshToldSaid : Prop := Claim7.holds Ybaf.pinned (.plain (OpenSpec.ofChange lawS0280AFreshSpec)) lawS0280AFreshCard
/-- ITS FALSE NEIGHBOUR. Refute it at one input. -/
def LawS0280AFreshToldWrongFalsely : Prop := Claim7.holds Ybaf.pinned (.plain (OpenSpec.ofChange lawS0280AFreshWrong)) lawS0280AFreshCard

/-- THE TOLD CARD OF 'tally64.LawS0280AScript'. -/
def lawS0280AScriptCard : Claim7 := { stood := { row := lawS0280AScriptRow, standIns := [], harness := (true, "d3d66bbbbe4c117bc3d7a3e53946737f17f393d6a7d2398d7733cce0cb8f642a"), looks := false }, told := true, goes := false }
def LawS0280AScriptToldSaid : Prop := Claim7.holds Ybaf.pinned (.plain (OpenSpec.ofChange lawS0280AScriptSpec)) lawS0280AScriptCard
/-- ITS FALSE NEIGHBOUR. Refute it at one input. -/
def LawS0280AScriptToldWrongFalsely : Prop := Claim7.holds Ybaf.pinned (.plain (OpenSpec.ofChange lawS0280AScriptWrong)) lawS0280AScriptCard

/-- THE TOLD CARD OF 'tally64.LawS0280BNonNegativePasses'. -/
def lawS0280BNonNegativePassesCard : Claim7 := { stood := { row := lawS0280BNonNegativePassesRow, standIns := [], harness := (true, "d3d66bbbbe4c117bc3d7a3e53946737f17f393d6a7d2398d7733cce0cb8f642a"), looks := false }, told := true, goes := false }
def LawS0280BNonNegativePassesToldSaid : Prop := Claim7.holds Ybaf.pinned (.plain (OpenSpec.ofChange lawS0280BNonNegativePassesSpec)) lawS0280BNonNegativePassesCard
/-- ITS FALSE NEIGHBOUR. Refute it at one input. -/
def LawS0280BNonNegativePassesToldWrongFalsely : Prop := Claim7.holds Ybaf.pinned (.plain (OpenSpec.ofChange lawS0280BNonNegativePassesWrong)) lawS0280BNonNegativePassesCard

/-- THE TOLD CARD OF 'tally64.LawS0280BMappedPasses'. -/
def lawS0280BMappedPassesCard : Claim7 := { stood := { row := lawS0280BMappedPassesRow, standIns := [], harness := (true, "d3d66bbbbe4c117bc3d7a3e53946737f17f393d6a7d2398d7733cce0cb8f642a"), looks := false }, told := true, goes := false }
def LawS0280BMappedPassesToldSaid : Prop := Claim7.holds Ybaf.pinned (.plain (OpenSpec.ofChange lawS0280BMappedPassesSpec)) lawS0280BMappedPassesCard
/-- ITS FALSE NEIGHBOUR. Refute it at one input. -/
def LawS0280BMappedPassesToldWrongFalsely : Prop := Claim7.holds Ybaf.pinned (.plain (OpenSpec.ofChange lawS0280BMappedPassesWrong)) lawS0280BMappedPassesCard

/-- THE TOLD CARD OF 'tally64.LawS0280CExact'. -/
def lawS0280CExactCard : Claim7 := { stood := { row := lawS0280CExactRow, standIns := [], harness := (true, "d3d66bbbbe4c117bc3d7a3e53946737f17f393d6a7d2398d7733cce0cb8f642a"), looks := false }, told := true, goes := false }
def LawS0280CExactToldSaid : Prop := Claim7.holds Ybaf.pinned (.plain (OpenSpec.ofChange lawS0280CExactSpec)) lawS0280CExactCard
/-- ITS FALSE NEIGHBOUR. Refute it at one input. -/
def LawS0280CExactToldWrongFalsely : Prop := Claim7.holds Ybaf.pinned (.plain (OpenSpec.ofChange lawS0280CExactWrong)) lawS0280CExactCard

/-- THE TOLD CARD OF 'tally64.LawS0280CScript'. -/
def lawS0280CScriptCard : Claim7 := { stood := { row := lawS0280CScriptRow, standIns := [], harness := (true, "d3d66bbbbe4c117bc3d7a3e53946737f17f393d6a7d2398d7733cce0cb8f642a"), looks := false }, told := true, goes := false }
def LawS0280CScriptToldSaid : Prop := Claim7.holds Ybaf.pinned (.plain (OpenSpec.ofChange lawS0280CScriptSpec)) lawS0280CScriptCard
/-- ITS FALSE NEIGHBOUR. Refute it at one input. -/
def LawS0280CScriptToldWrongFalsely : Prop := Claim7.holds Ybaf.pinned (.plain (OpenSpec.ofChange lawS0280CScriptWrong)) lawS0280CScriptCard
end Rows
end Go.Proofs.YbulketuFmt
