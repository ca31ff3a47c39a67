/-
  No cell of these rows narrows 'for every input' (looked for: loops, veiled, ifaces, maps, wideKeys, modest, calm, conditions, laid).
  DERIVED. THE GIVEN ROWS OF THIS SEAT. 2 by the template 'for every input the law returns true; each argument reads behind the call as it read before'; 0 by the template 'total and deterministic' (their statements: YbulkbflqTotals.lean).
  GIVEN WITH THE SEED: the statements are not yours to turn. If you find one false, say at which input.
  Laid BY PROGRAM, IN A SANDBOX (cutbox-rows.mjs): the forced cells as the released guide's own fill.sh prints them over the translation b5f2c79cc1814119… (all of the seat's roots in one cut). By AI agents, Wed Nov 11 2026. No macro, syntax, notation, axiom, sorry.
-/
import Derived.Test.YbulkbflqChecked
import GoSem.Claim
import GoSem.ClaimJoined
import GoSem.ClaimMapViews
import Derived.JoinedTies
import Derived.KernelRfl
namespace Go.Proofs.Ybulkbflq
/- THE CELL 'sum', in the pinned program and in every row, IS THE sha256 OF THE DUMP (.gsa) THAT YbulkbflqProg.lean LOADS. Nothing in Lean hashes anything: it is a label: what it is worth is what the hold of that sum in a sandbox is worth. -/
noncomputable def Yba.pinned : Pinned := { name := "ybulkbflq", sum := "b5f2c79cc18141194a2697c4635d476f645a77782df1a54de26a20e9c9071590", checked := Yba.checked }
namespace Rows
def none {H : Type} : Left H := { results := [], args := [] }

/-- 'neat-config.LawS2824BCopyPlain': WHATEVER THE INPUT: true; the input reads as it did. -/
def lawS2824BCopyPlainSpec : ChangeSpec := { name := "lawS2824BCopyPlain", fn := fun _ => fun
  | [d] => { results := [.lit (.bool true)], args := [d] }
  | _ => none }
def lawS2824BCopyPlainRow : OpenClaim := { program := "ybulkbflq", sum := "b5f2c79cc18141194a2697c4635d476f645a77782df1a54de26a20e9c9071590", func := "example.com/neat-config/neat-config.LawS2824BCopyPlain", spec := "lawS2824BCopyPlain", unfollowed := true, recurses := true, apart := false }
def LawS2824BCopyPlainSaid : Prop := lawS2824BCopyPlainRow.holds Yba.pinned (OpenSpec.ofChange lawS2824BCopyPlainSpec)

/-- ITS FALSE NEIGHBOUR: 'it returns false'. Refute it at one input. -/
def lawS2824BCopyPlainWrong : ChangeSpec := { name := "lawS2824BCopyPlain", fn := fun _ => fun
  | [d] => { results := [.lit (.bool false)], args := [d] }
  | _ => none }
def LawS2824BCopyPlainWrongFalsely : Prop := lawS2824BCopyPlainRow.holds Yba.pinned (OpenSpec.ofChange lawS2824BCopyPlainWrong)

/-- 'neat-config.LawS2824BCopyShares': WHATEVER THE INPUT: true; the input reads as it did. -/
def lawS2824BCopySharesSpec : ChangeSpec := { name := "lawS2824BCopyShares", fn := fun _ => fun
  | [d] => { results := [.lit (.bool true)], args := [d] }
  | _ => none }
def lawS2824BCopySharesRow : OpenClaim := { program := "ybulkbflq", sum := "b5f2c79cc18141194a2697c4635d476f645a77782df1a54de26a20e9c9071590", func := "example.com/neat-config/neat-config.LawS2824BCopyShares", spec := "lawS2824BCopyShares", unfollowed := true, recurses := true, apart := false }
def LawS2824BCopySharesSaid : Prop := lawS2824BCopySharesRow.holds Yba.pinned (OpenSpec.ofChange lawS2824BCopySharesSpec)

/-- ITS FALSE NEIGHBOUR: 'it returns false'. Refute it at one input. -/
def lawS2824BCopySharesWrong : ChangeSpec := { name := "lawS2824BCopyShares", fn := fun _ => fun
  | [d] => { results := [.lit (.bool false)], args := [d] }
  | _ => none }
def LawS2824BCopySharesWrongFalsely : Prop := lawS2824BCopySharesRow.holds Yba.pinned (OpenSpec.ofChange lawS2824BCopySharesWrong)

end Rows
end Go.Proofs.Ybulkbflq
