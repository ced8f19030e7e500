/-
  No cell of these rows narrows 'for every input' (looked for: loops, veiled, ifaces, maps, wideKeys, modest, calm, conditions, laid).
  DERIVED. THE GIVEN ROWS OF THIS SEAT. 6 by the template 'for every input the law returns true; each argument reads behind the call as it read before'; 0 by the template 'total and deterministic' (their statements: YbulkankcTotals.lean).
  GIVEN WITH THE SEED: the statements are not yours to turn. If you find one false, say at which input.
  Laid BY PROGRAM, IN A SANDBOX (cutbox-rows.mjs): the forced cells as the released guide's own fill.sh prints them over the translation 11aceadb93b69ee0… (all of the seat's roots in one cut). By AI agents, Wed Nov 11 2026. No macro, syntax, notation, axiom, sorry.
-/
import Derived.Test.YbulkankcChecked
import GoSem.Claim
import GoSem.ClaimJoined
import GoSem.ClaimMapViews
import Derived.JoinedTies
import Derived.KernelRfl
namespace Go.Proofs.Ybulkankc
/- THE CELL 'sum', in the pinned program and in every row, IS THE sha256 OF THE DUMP (.gsa) THAT YbulkankcProg.lean LOADS. Nothing in Lean hashes anything: it is a label: what it is worth is what the hold of that sum in a sandbox is worth. -/
noncomputable def Yba.pinned : Pinned := { name := "ybulkankc", sum := "11aceadb93b69ee0438868bb02ee920b27f3ed96f05e6a3cf67827bf01c09ad2", checked := Yba.checked }
namespace Rows
def none {H : Type} : Left H := { results := [], args := [] }

/-- 'afbbjplus.LawS1952AModel': WHATEVER THE INPUT: true; the input reads as it did. -/
def lawS1952AModelSpec : ChangeSpec := { name := "lawS1952AModel", fn := fun _ => fun
  | [d1, d2] => { results := [.lit (.bool true)], args := [d1, d2] }
  | _ => none }
def lawS1952AModelRow : OpenClaim := { program := "ybulkankc", sum := "11aceadb93b69ee0438868bb02ee920b27f3ed96f05e6a3cf67827bf01c09ad2", func := "example.com/forebound/forebound/afbbjplus.LawS1952AModel", spec := "lawS1952AModel", apart := false }
def LawS1952AModelSaid : Prop := lawS1952AModelRow.holds Yba.pinned (OpenSpec.ofChange lawS1952AModelSpec)

/-- ITS FALSE NEIGHBOUR: 'it returns false'. Refute it at one input. -/
def lawS1952AModelWrong : ChangeSpec := { name := "lawS1952AModel", fn := fun _ => fun
  | [d1, d2] => { results := [.lit (.bool false)], args := [d1, d2] }
  | _ => none }
def LawS1952AModelWrongFalsely : Prop := lawS1952AModelRow.holds Yba.pinned (OpenSpec.ofChange lawS1952AModelWrong)

/-- 'afbbjplus.LawS1952AAsym': WHATEVER THE INPUT: true; the input reads as it did. -/
def lawS1952AAsymSpec : ChangeSpec := { name := "lawS1952AAsym", fn := fun _ => fun
  | [d1, d2] => { results := [.lit (.bool true)], args := [d1, d2] }
  | _ => none }
def lawS1952AAsymRow : OpenClaim := { program := "ybulkankc", sum := "11aceadb93b69ee0438868bb02ee920b27f3ed96f05e6a3cf67827bf01c09ad2", func := "example.com/forebound/forebound/afbbjplus.LawS1952AAsym", spec := "lawS1952AAsym", apart := false }
def LawS1952AAsymSaid : Prop := lawS1952AAsymRow.holds Yba.pinned (OpenSpec.ofChange lawS1952AAsymSpec)

/-- ITS FALSE NEIGHBOUR: 'it returns false'. Refute it at one input. -/
def lawS1952AAsymWrong : ChangeSpec := { name := "lawS1952AAsym", fn := fun _ => fun
  | [d1, d2] => { results := [.lit (.bool false)], args := [d1, d2] }
  | _ => none }
def LawS1952AAsymWrongFalsely : Prop := lawS1952AAsymRow.holds Yba.pinned (OpenSpec.ofChange lawS1952AAsymWrong)

/-- 'problem.LawS1952BExact': WHATEVER THE INPUT: true; the input reads as it did. -/
def lawS1952BExactSpec : ChangeSpec := { name := "lawS1952BExact", fn := fun _ => fun
  | [d1, d2] => { results := [.lit (.bool true)], args := [d1, d2] }
  | _ => none }
def lawS1952BExactRow : OpenClaim := { program := "ybulkankc", sum := "11aceadb93b69ee0438868bb02ee920b27f3ed96f05e6a3cf67827bf01c09ad2", func := "example.com/forebound/forebound/problem.LawS1952BExact", spec := "lawS1952BExact", apart := false }
def LawS1952BExactSaid : Prop := lawS1952BExactRow.holds Yba.pinned (OpenSpec.ofChange lawS1952BExactSpec)

/-- ITS FALSE NEIGHBOUR: 'it returns false'. Refute it at one input. -/
def lawS1952BExactWrong : ChangeSpec := { name := "lawS1952BExact", fn := fun _ => fun
  | [d1, d2] => { results := [.lit (.bool false)], args := [d1, d2] }
  | _ => none }
def LawS1952BExactWrongFalsely : Prop := lawS1952BExactRow.holds Yba.pinned (OpenSpec.ofChange lawS1952BExactWrong)

/-- 'problem.LawS1952BAssocComm': WHATEVER THE INPUT: true; the input reads as it did. -/
def lawS1952BAssocCommSpec : ChangeSpec := { name := "lawS1952BAssocComm", fn := fun _ => fun
  | [d1, d2, d3] => { results := [.lit (.bool true)], args := [d1, d2, d3] }
  | _ => none }
def lawS1952BAssocCommRow : OpenClaim := { program := "ybulkankc", sum := "11aceadb93b69ee0438868bb02ee920b27f3ed96f05e6a3cf67827bf01c09ad2", func := "example.com/forebound/forebound/problem.LawS1952BAssocComm", spec := "lawS1952BAssocComm", apart := false }
def LawS1952BAssocCommSaid : Prop := lawS1952BAssocCommRow.holds Yba.pinned (OpenSpec.ofChange lawS1952BAssocCommSpec)

/-- ITS FALSE NEIGHBOUR: 'it returns false'. Refute it at one input. -/
def lawS1952BAssocCommWrong : ChangeSpec := { name := "lawS1952BAssocComm", fn := fun _ => fun
  | [d1, d2, d3] => { results := [.lit (.bool false)], args := [d1, d2, d3] }
  | _ => none }
def LawS1952BAssocCommWrongFalsely : Prop := lawS1952BAssocCommRow.holds Yba.pinned (OpenSpec.ofChange lawS1952BAssocCommWrong)

/-- 'syncbb.LawS1952CTermination': WHATEVER THE INPUT: true; the input reads as it did. -/
def lawS1952CTerminationSpec : ChangeSpec := { name := "lawS1952CTermination", fn := fun _ => fun
  | [d1, d2, d3, d4, d5, d6, d7, d8, d9, d10] => { results := [.lit (.bool true)], args := [d1, d2, d3, d4, d5, d6, d7, d8, d9, d10] }
  | _ => none }
def lawS1952CTerminationRow : OpenClaim := { program := "ybulkankc", sum := "11aceadb93b69ee0438868bb02ee920b27f3ed96f05e6a3cf67827bf01c09ad2", func := "example.com/forebound/forebound/syncbb.LawS1952CTermination", spec := "lawS1952CTermination", inPlace := ["internal/reflectlite.ValueOf", "internal/reflectlite.Swapper", "(internal/reflectlite.Value).Len"], unfollowed := true, recurses := true, apart := false }
def LawS1952CTerminationSaid : Prop := lawS1952CTerminationRow.holds Yba.pinned (OpenSpec.ofChange lawS1952CTerminationSpec)

/-- ITS FALSE NEIGHBOUR: 'it returns false'. Refute it at one input. -/
def lawS1952CTerminationWrong : ChangeSpec := { name := "lawS1952CTermination", fn := fun _ => fun
  | [d1, d2, d3, d4, d5, d6, d7, d8, d9, d10] => { results := [.lit (.bool false)], args := [d1, d2, d3, d4, d5, d6, d7, d8, d9, d10] }
  | _ => none }
def LawS1952CTerminationWrongFalsely : Prop := lawS1952CTerminationRow.holds Yba.pinned (OpenSpec.ofChange lawS1952CTerminationWrong)

/-- 'syncbb.LawS1952CLastWins': WHATEVER THE INPUT: true; the input reads as it did. -/
def lawS1952CLastWinsSpec : ChangeSpec := { name := "lawS1952CLastWins", fn := fun _ => fun
  | [d1, d2, d3, d4] => { results := [.lit (.bool true)], args := [d1, d2, d3, d4] }
  | _ => none }
def lawS1952CLastWinsRow : OpenClaim := { program := "ybulkankc", sum := "11aceadb93b69ee0438868bb02ee920b27f3ed96f05e6a3cf67827bf01c09ad2", func := "example.com/forebound/forebound/syncbb.LawS1952CLastWins", spec := "lawS1952CLastWins", inPlace := ["internal/reflectlite.ValueOf", "internal/reflectlite.Swapper", "(internal/reflectlite.Value).Len"], unfollowed := true, recurses := true, apart := false }
def LawS1952CLastWinsSaid : Prop := lawS1952CLastWinsRow.holds Yba.pinned (OpenSpec.ofChange lawS1952CLastWinsSpec)

/-- ITS FALSE NEIGHBOUR: 'it returns false'. Refute it at one input. -/
def lawS1952CLastWinsWrong : ChangeSpec := { name := "lawS1952CLastWins", fn := fun _ => fun
  | [d1, d2, d3, d4] => { results := [.lit (.bool false)], args := [d1, d2, d3, d4] }
  | _ => none }
def LawS1952CLastWinsWrongFalsely : Prop := lawS1952CLastWinsRow.holds Yba.pinned (OpenSpec.ofChange lawS1952CLastWinsWrong)

end Rows
end Go.Proofs.Ybulkankc
