/-
  DERIVED. GIVEN WITH THE SEED: THE CARDS: each row of YbulkanjaFmtRows.lean that lists a variable, with what it lists TIED to the program's text (the seventh form; the later family's looks); each row that meets fmt, with fmt's text TOLD by the authors' own Lean function (tested against real Go, not proved from fmt's source: count such statements apart). THE CARD IS WHAT COUNTS. Prove the row's statement (the work); the ties are given (YbulkanjaFmtTie.lean); close each card by the builder's one call (the guide's Derived/Test/ToyasCard.lean, 'card_holds'). Laid BY PROGRAM, IN A SANDBOX (cutbox-door.mjs). By AI agents, Wed Nov 11 2026. No macro, syntax, notation, axiom, sorry.
-/
import Derived.Test.YbulkanjaFmtRows
import GoSem.ClaimSeven
namespace Go.Proofs.YbulkanjaFmt
namespace Rows

/-- THE TOLD CARD OF 'ordering.LawS1950BSequencer'. -/
def lawS1950BSequencerCard : Claim7 := { stood := { row := lawS1950BSequencerRow, standIns := [], harness := (true, "42868bab3cbcccac9e718f38800edfc3ce37c8c6ae59e7a0f762ce8950ca508f"), looks := false }, told := true, goes := false }
def LawS1950BSequencerToldSaid : Prop := Claim7.holds Ybaf.pinned (.plain (OpenSpec.ofChange lawS1950BSequencerSpec)) lawS1950BSequencerCard
/-- ITS FALSE NEIGHBOUR. Refute it at one input. -/
def LawS1950BSequencerToldWrongFalsely : Prop := Claim7.holds Ybaf.pinned (.plain (OpenSpec.ofChange lawS1950BSequencerWrong)) lawS1950BSequencerCard

/-- THE TOLD CARD OF 'ordering.LawS1950BFollower'. -/
def lawS1950BFollowerCard : Claim7 := { stood := { row := lawS1950BFollowerRow, standIns := [], harness := (true, "42868bab3cbcccac9e718f38800edfc3ce37c8c6ae59e7a0f762ce8950ca508f"), looks := false }, told := true, goes := false }
def LawS1950BFollowerToldSaid : Prop := Claim7.holds Ybaf.pinned (.plain (OpenSpec.ofChange lawS1950BFollowerSpec)) lawS1950BFollowerCard
/-- ITS FALSE NEIGHBOUR. Refute it at one input. -/
def LawS1950BFollowerToldWrongFalsely : Prop := Claim7.holds Ybaf.pinned (.plain (OpenSpec.ofChange lawS1950BFollowerWrong)) lawS1950BFollowerCard
end Rows
end Go.Proofs.YbulkanjaFmt
