/-
  No cell of these rows narrows 'for every input' (looked for: loops, veiled, ifaces, maps, wideKeys, modest, calm, conditions, laid).
  DERIVED. THE GIVEN ROWS OF THIS SEAT. 6 by the template 'for every input the law returns true; each argument reads behind the call as it read before'; 0 by the template 'total and deterministic' (their statements: YbulkbfjmTotals.lean).
  GIVEN WITH THE SEED: the statements are not yours to turn. If you find one false, say at which input.
  Laid BY PROGRAM, IN A SANDBOX (cutbox-rows.mjs): the forced cells as the released guide's own fill.sh prints them over the translation 789509bb61fa7648… (all of the seat's roots in one cut). By AI agents, Wed Nov 11 2026. No macro, syntax, notation, axiom, sorry.
-/
import Derived.Test.YbulkbfjmChecked
import GoSem.Claim
import GoSem.ClaimJoined
import GoSem.ClaimMapViews
import Derived.JoinedTies
import Derived.KernelRfl
namespace Go.Proofs.Ybulkbfjm
/- THE CELL 'sum', in the pinned program and in every row, IS THE sha256 OF THE DUMP (.gsa) THAT YbulkbfjmProg.lean LOADS. Nothing in Lean hashes anything: it is a label: what it is worth is what the hold of that sum in a sandbox is worth. -/
noncomputable def Yba.pinned : Pinned := { name := "ybulkbfjm", sum := "789509bb61fa7648c1d4499659475f8a7446985113fecbf10af1a2442a2afe6e", checked := Yba.checked }
namespace Rows
def none {H : Type} : Left H := { results := [], args := [] }

/-- 'thenby.LawS2820AExact': WHATEVER THE INPUT: true; the input reads as it did. -/
def lawS2820AExactSpec : ChangeSpec := { name := "lawS2820AExact", fn := fun _ => fun
  | [d1, d2, d3] => { results := [.lit (.bool true)], args := [d1, d2, d3] }
  | _ => none }
def lawS2820AExactRow : OpenClaim := { program := "ybulkbfjm", sum := "789509bb61fa7648c1d4499659475f8a7446985113fecbf10af1a2442a2afe6e", func := "example.com/thenby/thenby.LawS2820AExact", spec := "lawS2820AExact", unfollowed := true, recurses := true, apart := false }
def LawS2820AExactSaid : Prop := lawS2820AExactRow.holds Yba.pinned (OpenSpec.ofChange lawS2820AExactSpec)

/-- ITS FALSE NEIGHBOUR: 'it returns false'. Refute it at one input. -/
def lawS2820AExactWrong : ChangeSpec := { name := "lawS2820AExact", fn := fun _ => fun
  | [d1, d2, d3] => { results := [.lit (.bool false)], args := [d1, d2, d3] }
  | _ => none }
def LawS2820AExactWrongFalsely : Prop := lawS2820AExactRow.holds Yba.pinned (OpenSpec.ofChange lawS2820AExactWrong)

/-- 'thenby.LawS2820AThen': WHATEVER THE INPUT: true; the input reads as it did. -/
def lawS2820AThenSpec : ChangeSpec := { name := "lawS2820AThen", fn := fun _ => fun
  | [d1, d2, d3] => { results := [.lit (.bool true)], args := [d1, d2, d3] }
  | _ => none }
def lawS2820AThenRow : OpenClaim := { program := "ybulkbfjm", sum := "789509bb61fa7648c1d4499659475f8a7446985113fecbf10af1a2442a2afe6e", func := "example.com/thenby/thenby.LawS2820AThen", spec := "lawS2820AThen", unfollowed := true, recurses := true, apart := false }
def LawS2820AThenSaid : Prop := lawS2820AThenRow.holds Yba.pinned (OpenSpec.ofChange lawS2820AThenSpec)

/-- ITS FALSE NEIGHBOUR: 'it returns false'. Refute it at one input. -/
def lawS2820AThenWrong : ChangeSpec := { name := "lawS2820AThen", fn := fun _ => fun
  | [d1, d2, d3] => { results := [.lit (.bool false)], args := [d1, d2, d3] }
  | _ => none }
def LawS2820AThenWrongFalsely : Prop := lawS2820AThenRow.holds Yba.pinned (OpenSpec.ofChange lawS2820AThenWrong)

/-- 'thenby.LawS2820BModel': WHATEVER THE INPUT: true; the input reads as it did. -/
def lawS2820BModelSpec : ChangeSpec := { name := "lawS2820BModel", fn := fun _ => fun
  | [d1, d2, d3, d4, d5, d6, d7, d8] => { results := [.lit (.bool true)], args := [d1, d2, d3, d4, d5, d6, d7, d8] }
  | _ => none }
def lawS2820BModelRow : OpenClaim := { program := "ybulkbfjm", sum := "789509bb61fa7648c1d4499659475f8a7446985113fecbf10af1a2442a2afe6e", func := "example.com/thenby/thenby.LawS2820BModel", spec := "lawS2820BModel", inPlace := ["internal/bytealg.abigen_runtime_cmpstring"], unfollowed := true, recurses := true, apart := false }
def LawS2820BModelSaid : Prop := lawS2820BModelRow.holds Yba.pinned (OpenSpec.ofChange lawS2820BModelSpec)

/-- ITS FALSE NEIGHBOUR: 'it returns false'. Refute it at one input. -/
def lawS2820BModelWrong : ChangeSpec := { name := "lawS2820BModel", fn := fun _ => fun
  | [d1, d2, d3, d4, d5, d6, d7, d8] => { results := [.lit (.bool false)], args := [d1, d2, d3, d4, d5, d6, d7, d8] }
  | _ => none }
def LawS2820BModelWrongFalsely : Prop := lawS2820BModelRow.holds Yba.pinned (OpenSpec.ofChange lawS2820BModelWrong)

/-- 'thenby.LawS2820BSibling': WHATEVER THE INPUT: true; the input reads as it did. -/
def lawS2820BSiblingSpec : ChangeSpec := { name := "lawS2820BSibling", fn := fun _ => fun
  | [d1, d2, d3, d4, d5, d6, d7, d8] => { results := [.lit (.bool true)], args := [d1, d2, d3, d4, d5, d6, d7, d8] }
  | _ => none }
def lawS2820BSiblingRow : OpenClaim := { program := "ybulkbfjm", sum := "789509bb61fa7648c1d4499659475f8a7446985113fecbf10af1a2442a2afe6e", func := "example.com/thenby/thenby.LawS2820BSibling", spec := "lawS2820BSibling", inPlace := ["internal/bytealg.abigen_runtime_cmpstring"], unfollowed := true, recurses := true, apart := false }
def LawS2820BSiblingSaid : Prop := lawS2820BSiblingRow.holds Yba.pinned (OpenSpec.ofChange lawS2820BSiblingSpec)

/-- ITS FALSE NEIGHBOUR: 'it returns false'. Refute it at one input. -/
def lawS2820BSiblingWrong : ChangeSpec := { name := "lawS2820BSibling", fn := fun _ => fun
  | [d1, d2, d3, d4, d5, d6, d7, d8] => { results := [.lit (.bool false)], args := [d1, d2, d3, d4, d5, d6, d7, d8] }
  | _ => none }
def LawS2820BSiblingWrongFalsely : Prop := lawS2820BSiblingRow.holds Yba.pinned (OpenSpec.ofChange lawS2820BSiblingWrong)

/-- 'thenby.LawS2820CExact': WHATEVER THE INPUT: true; the input reads as it did. -/
def lawS2820CExactSpec : ChangeSpec := { name := "lawS2820CExact", fn := fun _ => fun
  | [d1, d2, d3, d4, d5, d6, d7, d8] => { results := [.lit (.bool true)], args := [d1, d2, d3, d4, d5, d6, d7, d8] }
  | _ => none }
def lawS2820CExactRow : OpenClaim := { program := "ybulkbfjm", sum := "789509bb61fa7648c1d4499659475f8a7446985113fecbf10af1a2442a2afe6e", func := "example.com/thenby/thenby.LawS2820CExact", spec := "lawS2820CExact", inPlace := ["internal/bytealg.abigen_runtime_cmpstring"], unfollowed := true, recurses := true, apart := false }
def LawS2820CExactSaid : Prop := lawS2820CExactRow.holds Yba.pinned (OpenSpec.ofChange lawS2820CExactSpec)

/-- ITS FALSE NEIGHBOUR: 'it returns false'. Refute it at one input. -/
def lawS2820CExactWrong : ChangeSpec := { name := "lawS2820CExact", fn := fun _ => fun
  | [d1, d2, d3, d4, d5, d6, d7, d8] => { results := [.lit (.bool false)], args := [d1, d2, d3, d4, d5, d6, d7, d8] }
  | _ => none }
def LawS2820CExactWrongFalsely : Prop := lawS2820CExactRow.holds Yba.pinned (OpenSpec.ofChange lawS2820CExactWrong)

/-- 'thenby.LawS2820CCalls': WHATEVER THE INPUT: true; the input reads as it did. -/
def lawS2820CCallsSpec : ChangeSpec := { name := "lawS2820CCalls", fn := fun _ => fun
  | [d1, d2, d3, d4, d5, d6, d7, d8] => { results := [.lit (.bool true)], args := [d1, d2, d3, d4, d5, d6, d7, d8] }
  | _ => none }
def lawS2820CCallsRow : OpenClaim := { program := "ybulkbfjm", sum := "789509bb61fa7648c1d4499659475f8a7446985113fecbf10af1a2442a2afe6e", func := "example.com/thenby/thenby.LawS2820CCalls", spec := "lawS2820CCalls", inPlace := ["internal/bytealg.abigen_runtime_cmpstring"], unfollowed := true, recurses := true, apart := false }
def LawS2820CCallsSaid : Prop := lawS2820CCallsRow.holds Yba.pinned (OpenSpec.ofChange lawS2820CCallsSpec)

/-- ITS FALSE NEIGHBOUR: 'it returns false'. Refute it at one input. -/
def lawS2820CCallsWrong : ChangeSpec := { name := "lawS2820CCalls", fn := fun _ => fun
  | [d1, d2, d3, d4, d5, d6, d7, d8] => { results := [.lit (.bool false)], args := [d1, d2, d3, d4, d5, d6, d7, d8] }
  | _ => none }
def LawS2820CCallsWrongFalsely : Prop := lawS2820CCallsRow.holds Yba.pinned (OpenSpec.ofChange lawS2820CCallsWrong)

end Rows
end Go.Proofs.Ybulkbfjm
