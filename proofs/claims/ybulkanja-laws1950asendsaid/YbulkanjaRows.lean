/-
  No cell of these rows narrows 'for every input' (looked for: loops, veiled, ifaces, maps, wideKeys, modest, calm, conditions, laid).
  DERIVED. THE GIVEN ROWS OF THIS SEAT. 2 by the template 'for every input the law returns true; each argument reads behind the call as it read before'; 0 by the template 'total and deterministic' (their statements: YbulkanjaTotals.lean).
  GIVEN WITH THE SEED: the statements are not yours to turn. If you find one false, say at which input.
  Laid BY PROGRAM, IN A SANDBOX (cutbox-rows.mjs): the forced cells as the released guide's own fill.sh prints them over the translation c573c0654d1a265d… (all of the seat's roots in one cut). By AI agents, Wed Nov 11 2026. No macro, syntax, notation, axiom, sorry.
-/
import Derived.Test.YbulkanjaChecked
import GoSem.Claim
import GoSem.ClaimJoined
import GoSem.ClaimMapViews
import Derived.JoinedTies
import Derived.KernelRfl
namespace Go.Proofs.Ybulkanja
/- THE CELL 'sum', in the pinned program and in every row, IS THE sha256 OF THE DUMP (.gsa) THAT YbulkanjaProg.lean LOADS. Nothing in Lean hashes anything: it is a label: what it is worth is what the hold of that sum in a sandbox is worth. -/
noncomputable def Yba.pinned : Pinned := { name := "ybulkanja", sum := "c573c0654d1a265d7f8ba58a5186a394330c9bc6c29ee0c923900ff18a7c7994", checked := Yba.checked }
namespace Rows
def none {H : Type} : Left H := { results := [], args := [] }

/-- 'group.LawS1950ASend': WHATEVER THE INPUT: true; the input reads as it did. -/
def lawS1950ASendSpec : ChangeSpec := { name := "lawS1950ASend", fn := fun _ => fun
  | [d1, d2, d3, d4, d5, d6, d7, d8, d9] => { results := [.lit (.bool true)], args := [d1, d2, d3, d4, d5, d6, d7, d8, d9] }
  | _ => none }
def lawS1950ASendRow : OpenClaim := { program := "ybulkanja", sum := "c573c0654d1a265d7f8ba58a5186a394330c9bc6c29ee0c923900ff18a7c7994", func := "ordercast.example/ordercast/internal/group.LawS1950ASend", spec := "lawS1950ASend", apart := false }
def LawS1950ASendSaid : Prop := lawS1950ASendRow.holds Yba.pinned (OpenSpec.ofChange lawS1950ASendSpec)

/-- ITS FALSE NEIGHBOUR: 'it returns false'. Refute it at one input. -/
def lawS1950ASendWrong : ChangeSpec := { name := "lawS1950ASend", fn := fun _ => fun
  | [d1, d2, d3, d4, d5, d6, d7, d8, d9] => { results := [.lit (.bool false)], args := [d1, d2, d3, d4, d5, d6, d7, d8, d9] }
  | _ => none }
def LawS1950ASendWrongFalsely : Prop := lawS1950ASendRow.holds Yba.pinned (OpenSpec.ofChange lawS1950ASendWrong)

/-- 'ordering.LawS1950CPlace': WHATEVER THE INPUT: true; the input reads as it did. -/
def lawS1950CPlaceSpec : ChangeSpec := { name := "lawS1950CPlace", fn := fun _ => fun
  | [d1, d2, d3, d4] => { results := [.lit (.bool true)], args := [d1, d2, d3, d4] }
  | _ => none }
def lawS1950CPlaceRow : OpenClaim := { program := "ybulkanja", sum := "c573c0654d1a265d7f8ba58a5186a394330c9bc6c29ee0c923900ff18a7c7994", func := "ordercast.example/ordercast/internal/ordering.LawS1950CPlace", spec := "lawS1950CPlace", unfollowed := true, recurses := true, apart := false }
def LawS1950CPlaceSaid : Prop := lawS1950CPlaceRow.holds Yba.pinned (OpenSpec.ofChange lawS1950CPlaceSpec)

/-- ITS FALSE NEIGHBOUR: 'it returns false'. Refute it at one input. -/
def lawS1950CPlaceWrong : ChangeSpec := { name := "lawS1950CPlace", fn := fun _ => fun
  | [d1, d2, d3, d4] => { results := [.lit (.bool false)], args := [d1, d2, d3, d4] }
  | _ => none }
def LawS1950CPlaceWrongFalsely : Prop := lawS1950CPlaceRow.holds Yba.pinned (OpenSpec.ofChange lawS1950CPlaceWrong)

end Rows
end Go.Proofs.Ybulkanja
