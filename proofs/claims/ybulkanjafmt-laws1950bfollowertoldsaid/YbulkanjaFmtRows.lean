/-
  No cell of these rows narrows 'for every input' (looked for: loops, veiled, ifaces, maps, wideKeys, modest, calm, conditions, laid).
  DERIVED. THE GIVEN ROWS OF THIS SEAT. 2 by the template 'for every input the law returns true; each argument reads behind the call as it read before'; 0 by the template 'total and deterministic' (their statements: YbulkanjaFmtTotals.lean).
  GIVEN WITH THE SEED: the statements are not yours to turn. If you find one false, say at which input.
  Laid BY PROGRAM, IN A SANDBOX (cutbox-rows.mjs): the forced cells as the released guide's own fill.sh prints them over the translation fe78a4bc16ded2ae… (all of the seat's roots in one cut). By AI agents, Wed Nov 11 2026. No macro, syntax, notation, axiom, sorry.
-/
import Derived.Test.YbulkanjaFmtChecked
import GoSem.Claim
import GoSem.ClaimJoined
import GoSem.ClaimMapViews
import Derived.JoinedTies
import Derived.KernelRfl
namespace Go.Proofs.YbulkanjaFmt
/- THE CELL 'sum', in the pinned program and in every row, IS THE sha256 OF THE DUMP (.gsa) THAT YbulkanjaFmtProg.lean LOADS. Nothing in Lean hashes anything: it is a label: what it is worth is what the hold of that sum in a sandbox is worth. -/
noncomputable def Ybaf.pinned : Pinned := { name := "ybulkanjafmt", sum := "fe78a4bc16ded2aeb5fa4fc948566c458c813275457939a627c708e18b092f8d", checked := Ybaf.checked }
namespace Rows
def none {H : Type} : Left H := { results := [], args := [] }

/-- 'ordering.LawS1950BSequencer': WHATEVER THE INPUT: true; the input reads as it did. -/
def lawS1950BSequencerSpec : ChangeSpec := { name := "lawS1950BSequencer", fn := fun _ => fun
  | [d1, d2, d3, d4] => { results := [.lit (.bool true)], args := [d1, d2, d3, d4] }
  | _ => none }
def lawS1950BSequencerRow : OpenClaim := { program := "ybulkanjafmt", sum := "fe78a4bc16ded2aeb5fa4fc948566c458c813275457939a627c708e18b092f8d", func := "ordercast.example/ordercast/internal/ordering.LawS1950BSequencer", spec := "lawS1950BSequencer", stops := ["fmt.errorf"], inPlace := ["fmt.errorf"], unfollowed := true, recurses := true, plainKeys := false, apart := false }
/-- NO THEOREM (fmt's text is open here; it may be false): for the released tool's asking of the row's closed facts alone. THE STATEMENT IS 'LawS1950BSequencerToldSaid' (YbulkanjaFmtCards.lean). -/
def LawS1950BSequencerFormAsk : Prop := lawS1950BSequencerRow.holds Ybaf.pinned (OpenSpec.ofChange lawS1950BSequencerSpec)

/-- ITS FALSE NEIGHBOUR: 'it returns false'. Refute it at one input. -/
def lawS1950BSequencerWrong : ChangeSpec := { name := "lawS1950BSequencer", fn := fun _ => fun
  | [d1, d2, d3, d4] => { results := [.lit (.bool false)], args := [d1, d2, d3, d4] }
  | _ => none }
def LawS1950BSequencerWrongFormAsk : Prop := lawS1950BSequencerRow.holds Ybaf.pinned (OpenSpec.ofChange lawS1950BSequencerWrong)

/-- 'ordering.LawS1950BFollower': WHATEVER THE INPUT: true; the input reads as it did. -/
def lawS1950BFollowerSpec : ChangeSpec := { name := "lawS1950BFollower", fn := fun _ => fun
  | [d1, d2, d3] => { results := [.lit (.bool true)], args := [d1, d2, d3] }
  | _ => none }
def lawS1950BFollowerRow : OpenClaim := { program := "ybulkanjafmt", sum := "fe78a4bc16ded2aeb5fa4fc948566c458c813275457939a627c708e18b092f8d", func := "ordercast.example/ordercast/internal/ordering.LawS1950BFollower", spec := "lawS1950BFollower", stops := ["fmt.errorf"], inPlace := ["fmt.errorf"], unfollowed := true, recurses := true, plainKeys := false, apart := false }
/-- NO THEOREM (fmt's text is open here; it may be false): for the released tool's asking of the row's closed facts alone. THE STATEMENT IS 'LawS1950BFollowerToldSaid' (YbulkanjaFmtCards.lean). -/
def LawS1950BFollowerFormAsk : Prop := lawS1950BFollowerRow.holds Ybaf.pinned (OpenSpec.ofChange lawS1950BFollowerSpec)

/-- ITS FALSE NEIGHBOUR: 'it returns false'. Refute it at one input. -/
def lawS1950BFollowerWrong : ChangeSpec := { name := "lawS1950BFollower", fn := fun _ => fun
  | [d1, d2, d3] => { results := [.lit (.bool false)], args := [d1, d2, d3] }
  | _ => none }
def LawS1950BFollowerWrongFormAsk : Prop := lawS1950BFollowerRow.holds Ybaf.pinned (OpenSpec.ofChange lawS1950BFollowerWrong)

end Rows
end Go.Proofs.YbulkanjaFmt
