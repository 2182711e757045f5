/-
  No cell of these rows narrows 'for every input' (looked for: loops, veiled, ifaces, maps, wideKeys, modest, calm, conditions, laid).
  DERIVED. THE GIVEN ROWS OF THIS SEAT. 6 by the template 'for every input the law returns true; each argument reads behind the call as it read before'; 0 by the template 'total and deterministic' (their statements: YbulketuFmtTotals.lean).
  GIVEN WITH THE SEED: the statements are not yours to turn. If you find one false, say at which input.
  Laid BY PROGRAM, IN A SANDBOX (cutbox-rows.mjs): the forced cells as the released guide's own fill.sh prints them over the translation 3cd974355ef64cbd… (all of the seat's roots in one cut). By AI agents, Wed Nov 11 2026. No macro, syntax, notation, axiom, sorry.
-/
import Derived.Test.YbulketuFmtChecked
import GoSem.Claim
import GoSem.ClaimJoined
import GoSem.ClaimMapViews
import Derived.JoinedTies
import Derived.KernelRfl
namespace Go.Proofs.YbulketuFmt
/- THE CELL 'sum', in the pinned program and in every row, IS THE sha256 OF THE DUMP (.gsa) THAT YbulketuFmtProg.lean LOADS. Nothing in Lean hashes anything: it is a label: what it is worth is what the hold of that sum in a sandbox is worth. -/
noncomputable def Ybaf.pinned : Pinned := { name := "ybulketufmt", sum := "3cd974355ef64cbdc5f0bac77e351034500edbed40a7532182b07acb6515dfa0", checked := Ybaf.checked }
namespace Rows
def none {H : Type} : Left H := { results := [], args := [] }

/-- 'tally64.LawS0280AFresh': WHATEVER THE INPUT: true; the input reads as it did. -/
def lawS0280AFreshSpec : ChangeSpec := { name := "lawS0280AFresh", fn := fun _ => fun
  | [d] => { results := [.lit (.bool true)], args := [d] }
  | _ => none }
def lawS0280AFreshRow : OpenClaim := { program := "ybulketufmt", sum := "3cd974355ef64cbdc5f0bac77e351034500edbed40a7532182b07acb6515dfa0", func := "example.com/tally64/tally64.LawS0280AFresh", spec := "lawS0280AFresh", stops := ["fmt.Sprintf"], inPlace := ["fmt.Sprintf", "(*internal/sync.Mutex).Lock", "internal/race.Disable", "sync/atomic.CompareAndSwapInt32", "internal/race.Enable", "internal/race.Acquire", "(*internal/sync.Mutex).lockSlow", "internal/sync.runtime_canSpin", "internal/sync.runtime_doSpin", "internal/sync.throw", "internal/sync.runtime_nanotime", "internal/sync.runtime_SemacquireMutex", "sync/atomic.AddInt32", "(*internal/sync.Mutex).Unlock", "internal/race.ReleaseMerge", "(*internal/sync.Mutex).unlockSlow", "internal/sync.fatal", "internal/sync.runtime_Semrelease"], apart := false }
/-- NO THEOREM (fmt's text is open here; it may be false): for the released tool's asking of the row's closed facts alone. THE STATEMENT IS 'LawS0280AFreshToldSaid' (YbulketuFmtCards.lean). -/
def LawS0280AFreshFormAsk : Prop := lawS0280AFreshRow.holds Ybaf.pinned (OpenSpec.ofChange lawS0280AFreshSpec)

/-- ITS FALSE NEIGHBOUR: 'it returns false'. Refute it at one input. -/
def lawS0280AFreshWrong : ChangeSpec := { name := "lawS0280AFresh", fn := fun _ => fun
  | [d] => { results := [.lit (.bool false)], args := [d] }
  | _ => none }
def LawS0280AFreshWrongFormAsk : Prop := lawS0280AFreshRow.holds Ybaf.pinned (OpenSpec.ofChange lawS0280AFreshWrong)

/-- 'tally64.LawS0280AScript': WHATEVER THE INPUT: true; the input reads as it did. -/
def lawS0280AScriptSpec : ChangeSpec := { name := "lawS0280AScript", fn := fun _ => fun
  | [d1, d2] => { results := [.lit (.bool true)], args := [d1, d2] }
  | _ => none }
def lawS0280AScriptRow : OpenClaim := { program := "ybulketufmt", sum := "3cd974355ef64cbdc5f0bac77e351034500edbed40a7532182b07acb6515dfa0", func := "example.com/tally64/tally64.LawS0280AScript", spec := "lawS0280AScript", stops := ["fmt.Sprintf"], inPlace := ["fmt.Sprintf", "(*internal/sync.Mutex).Lock", "internal/race.Disable", "sync/atomic.CompareAndSwapInt32", "internal/race.Enable", "internal/race.Acquire", "(*internal/sync.Mutex).lockSlow", "internal/sync.runtime_canSpin", "internal/sync.runtime_doSpin", "internal/sync.throw", "internal/sync.runtime_nanotime", "internal/sync.runtime_SemacquireMutex", "sync/atomic.AddInt32", "(*internal/sync.Mutex).Unlock", "internal/race.ReleaseMerge", "(*internal/sync.Mutex).unlockSlow", "internal/sync.fatal", "internal/sync.runtime_Semrelease"], unfollowed := true, recurses := true, apart := false }
/-- NO THEOREM (fmt's text is open here; it may be false): for the released tool's asking of the row's closed facts alone. THE STATEMENT IS 'LawS0280AScriptToldSaid' (YbulketuFmtCards.lean). -/
def LawS0280AScriptFormAsk : Prop := lawS0280AScriptRow.holds Ybaf.pinned (OpenSpec.ofChange lawS0280AScriptSpec)

/-- ITS FALSE NEIGHBOUR: 'it returns false'. Refute it at one input. -/
def lawS0280AScriptWrong : ChangeSpec := { name := "lawS0280AScript", fn := fun _ => fun
  | [d1, d2] => { results := [.lit (.bool false)], args := [d1, d2] }
  | _ => none }
def LawS0280AScriptWrongFormAsk : Prop := lawS0280AScriptRow.holds Ybaf.pinned (OpenSpec.ofChange lawS0280AScriptWrong)

/-- 'tally64.LawS0280BNonNegativePasses': WHATEVER THE INPUT: true; the input reads as it did. -/
def lawS0280BNonNegativePassesSpec : ChangeSpec := { name := "lawS0280BNonNegativePasses", fn := fun _ => fun
  | [d] => { results := [.lit (.bool true)], args := [d] }
  | _ => none }
def lawS0280BNonNegativePassesRow : OpenClaim := { program := "ybulketufmt", sum := "3cd974355ef64cbdc5f0bac77e351034500edbed40a7532182b07acb6515dfa0", func := "example.com/tally64/tally64.LawS0280BNonNegativePasses", spec := "lawS0280BNonNegativePasses", stops := ["fmt.Sprintf"], inPlace := ["fmt.Sprintf"], apart := false }
/-- NO THEOREM (fmt's text is open here; it may be false): for the released tool's asking of the row's closed facts alone. THE STATEMENT IS 'LawS0280BNonNegativePassesToldSaid' (YbulketuFmtCards.lean). -/
def LawS0280BNonNegativePassesFormAsk : Prop := lawS0280BNonNegativePassesRow.holds Ybaf.pinned (OpenSpec.ofChange lawS0280BNonNegativePassesSpec)

/-- ITS FALSE NEIGHBOUR: 'it returns false'. Refute it at one input. -/
def lawS0280BNonNegativePassesWrong : ChangeSpec := { name := "lawS0280BNonNegativePasses", fn := fun _ => fun
  | [d] => { results := [.lit (.bool false)], args := [d] }
  | _ => none }
def LawS0280BNonNegativePassesWrongFormAsk : Prop := lawS0280BNonNegativePassesRow.holds Ybaf.pinned (OpenSpec.ofChange lawS0280BNonNegativePassesWrong)

/-- 'tally64.LawS0280BMappedPasses': WHATEVER THE INPUT: true; the input reads as it did. -/
def lawS0280BMappedPassesSpec : ChangeSpec := { name := "lawS0280BMappedPasses", fn := fun _ => fun
  | [d] => { results := [.lit (.bool true)], args := [d] }
  | _ => none }
def lawS0280BMappedPassesRow : OpenClaim := { program := "ybulketufmt", sum := "3cd974355ef64cbdc5f0bac77e351034500edbed40a7532182b07acb6515dfa0", func := "example.com/tally64/tally64.LawS0280BMappedPasses", spec := "lawS0280BMappedPasses", stops := ["fmt.Sprintf"], inPlace := ["fmt.Sprintf"], apart := false }
/-- NO THEOREM (fmt's text is open here; it may be false): for the released tool's asking of the row's closed facts alone. THE STATEMENT IS 'LawS0280BMappedPassesToldSaid' (YbulketuFmtCards.lean). -/
def LawS0280BMappedPassesFormAsk : Prop := lawS0280BMappedPassesRow.holds Ybaf.pinned (OpenSpec.ofChange lawS0280BMappedPassesSpec)

/-- ITS FALSE NEIGHBOUR: 'it returns false'. Refute it at one input. -/
def lawS0280BMappedPassesWrong : ChangeSpec := { name := "lawS0280BMappedPasses", fn := fun _ => fun
  | [d] => { results := [.lit (.bool false)], args := [d] }
  | _ => none }
def LawS0280BMappedPassesWrongFormAsk : Prop := lawS0280BMappedPassesRow.holds Ybaf.pinned (OpenSpec.ofChange lawS0280BMappedPassesWrong)

/-- 'tally64.LawS0280CExact': WHATEVER THE INPUT: true; the input reads as it did. -/
def lawS0280CExactSpec : ChangeSpec := { name := "lawS0280CExact", fn := fun _ => fun
  | [d1, d2, d3, d4, d5] => { results := [.lit (.bool true)], args := [d1, d2, d3, d4, d5] }
  | _ => none }
def lawS0280CExactRow : OpenClaim := { program := "ybulketufmt", sum := "3cd974355ef64cbdc5f0bac77e351034500edbed40a7532182b07acb6515dfa0", func := "example.com/tally64/tally64.LawS0280CExact", spec := "lawS0280CExact", stops := ["fmt.Sprintf"], inPlace := ["fmt.Sprintf", "(*internal/sync.Mutex).Lock", "internal/race.Disable", "sync/atomic.CompareAndSwapInt32", "internal/race.Enable", "internal/race.Acquire", "(*internal/sync.Mutex).lockSlow", "internal/sync.runtime_canSpin", "internal/sync.runtime_doSpin", "internal/sync.throw", "internal/sync.runtime_nanotime", "internal/sync.runtime_SemacquireMutex", "sync/atomic.AddInt32", "(*internal/sync.Mutex).Unlock", "internal/race.ReleaseMerge", "(*internal/sync.Mutex).unlockSlow", "internal/sync.fatal", "internal/sync.runtime_Semrelease"], apart := false }
/-- NO THEOREM (fmt's text is open here; it may be false): for the released tool's asking of the row's closed facts alone. THE STATEMENT IS 'LawS0280CExactToldSaid' (YbulketuFmtCards.lean). -/
def LawS0280CExactFormAsk : Prop := lawS0280CExactRow.holds Ybaf.pinned (OpenSpec.ofChange lawS0280CExactSpec)

/-- ITS FALSE NEIGHBOUR: 'it returns false'. Refute it at one input. -/
def lawS0280CExactWrong : ChangeSpec := { name := "lawS0280CExact", fn := fun _ => fun
  | [d1, d2, d3, d4, d5] => { results := [.lit (.bool false)], args := [d1, d2, d3, d4, d5] }
  | _ => none }
def LawS0280CExactWrongFormAsk : Prop := lawS0280CExactRow.holds Ybaf.pinned (OpenSpec.ofChange lawS0280CExactWrong)

/-- 'tally64.LawS0280CScript': WHATEVER THE INPUT: true; the input reads as it did. -/
def lawS0280CScriptSpec : ChangeSpec := { name := "lawS0280CScript", fn := fun _ => fun
  | [d1, d2] => { results := [.lit (.bool true)], args := [d1, d2] }
  | _ => none }
def lawS0280CScriptRow : OpenClaim := { program := "ybulketufmt", sum := "3cd974355ef64cbdc5f0bac77e351034500edbed40a7532182b07acb6515dfa0", func := "example.com/tally64/tally64.LawS0280CScript", spec := "lawS0280CScript", stops := ["fmt.Sprintf"], inPlace := ["fmt.Sprintf", "(*internal/sync.Mutex).Lock", "internal/race.Disable", "sync/atomic.CompareAndSwapInt32", "internal/race.Enable", "internal/race.Acquire", "(*internal/sync.Mutex).lockSlow", "internal/sync.runtime_canSpin", "internal/sync.runtime_doSpin", "internal/sync.throw", "internal/sync.runtime_nanotime", "internal/sync.runtime_SemacquireMutex", "sync/atomic.AddInt32", "(*internal/sync.Mutex).Unlock", "internal/race.ReleaseMerge", "(*internal/sync.Mutex).unlockSlow", "internal/sync.fatal", "internal/sync.runtime_Semrelease"], apart := false }
/-- NO THEOREM (fmt's text is open here; it may be false): for the released tool's asking of the row's closed facts alone. THE STATEMENT IS 'LawS0280CScriptToldSaid' (YbulketuFmtCards.lean). -/
def LawS0280CScriptFormAsk : Prop := lawS0280CScriptRow.holds Ybaf.pinned (OpenSpec.ofChange lawS0280CScriptSpec)

/-- ITS FALSE NEIGHBOUR: 'it returns false'. Refute it at one input. -/
def lawS0280CScriptWrong : ChangeSpec := { name := "lawS0280CScript", fn := fun _ => fun
  | [d1, d2] => { results := [.lit (.bool false)], args := [d1, d2] }
  | _ => none }
def LawS0280CScriptWrongFormAsk : Prop := lawS0280CScriptRow.holds Ybaf.pinned (OpenSpec.ofChange lawS0280CScriptWrong)

end Rows
end Go.Proofs.YbulketuFmt
