/-
  No cell of these rows narrows 'for every input' (looked for: loops, veiled, ifaces, maps, wideKeys, modest, calm, conditions, laid).
  DERIVED. THE GIVEN ROWS OF THIS SEAT. 2 by the template 'for every input the law returns true; each argument reads behind the call as it read before'; 0 by the template 'total and deterministic' (their statements: YbulklleTotals.lean).
  GIVEN WITH THE SEED: the statements are not yours to turn. If you find one false, say at which input.
  Laid BY PROGRAM, IN A SANDBOX (cutbox-rows.mjs): the forced cells as the released guide's own fill.sh prints them over the translation e0df72346629ffea… (all of the seat's roots in one cut). By AI agents, Wed Nov 11 2026. No macro, syntax, notation, axiom, sorry.
-/
import Derived.Test.YbulklleChecked
import GoSem.Claim
import GoSem.ClaimJoined
import GoSem.ClaimMapViews
import Derived.JoinedTies
import Derived.KernelRfl
namespace Go.Proofs.Ybulklle
/- THE CELL 'sum', in the pinned program and in every row, IS THE sha256 OF THE DUMP (.gsa) THAT YbulklleProg.lean LOADS. Nothing in Lean hashes anything: it is a label: what it is worth is what the hold of that sum in a sandbox is worth. -/
noncomputable def Yba.pinned : Pinned := { name := "ybulklle", sum := "e0df72346629ffea895d28914bfebd38b7bacba63e57c5b91338222c05b2468c", checked := Yba.checked }
namespace Rows
def none {H : Type} : Left H := { results := [], args := [] }

/-- 'slots.LawS0602CExact': WHATEVER THE INPUT: true; the input reads as it did. -/
def lawS0602CExactSpec : ChangeSpec := { name := "lawS0602CExact", fn := fun _ => fun
  | [d1, d2, d3, d4] => { results := [.lit (.bool true)], args := [d1, d2, d3, d4] }
  | _ => none }
def lawS0602CExactRow : OpenClaim := { program := "ybulklle", sum := "e0df72346629ffea895d28914bfebd38b7bacba63e57c5b91338222c05b2468c", func := "example.com/ballotline/ballotline/slots.LawS0602CExact", spec := "lawS0602CExact", plainKeys := false, apart := false }
def LawS0602CExactSaid : Prop := lawS0602CExactRow.holds Yba.pinned (OpenSpec.ofChange lawS0602CExactSpec)

/-- ITS FALSE NEIGHBOUR: 'it returns false'. Refute it at one input. -/
def lawS0602CExactWrong : ChangeSpec := { name := "lawS0602CExact", fn := fun _ => fun
  | [d1, d2, d3, d4] => { results := [.lit (.bool false)], args := [d1, d2, d3, d4] }
  | _ => none }
def LawS0602CExactWrongFalsely : Prop := lawS0602CExactRow.holds Yba.pinned (OpenSpec.ofChange lawS0602CExactWrong)

/-- 'slots.LawS0602CNilAccepted': WHATEVER THE INPUT: true; the input reads as it did. -/
def lawS0602CNilAcceptedSpec : ChangeSpec := { name := "lawS0602CNilAccepted", fn := fun _ => fun
  | [d1, d2, d3] => { results := [.lit (.bool true)], args := [d1, d2, d3] }
  | _ => none }
def lawS0602CNilAcceptedRow : OpenClaim := { program := "ybulklle", sum := "e0df72346629ffea895d28914bfebd38b7bacba63e57c5b91338222c05b2468c", func := "example.com/ballotline/ballotline/slots.LawS0602CNilAccepted", spec := "lawS0602CNilAccepted", plainKeys := false, apart := false }
def LawS0602CNilAcceptedSaid : Prop := lawS0602CNilAcceptedRow.holds Yba.pinned (OpenSpec.ofChange lawS0602CNilAcceptedSpec)

/-- ITS FALSE NEIGHBOUR: 'it returns false'. Refute it at one input. -/
def lawS0602CNilAcceptedWrong : ChangeSpec := { name := "lawS0602CNilAccepted", fn := fun _ => fun
  | [d1, d2, d3] => { results := [.lit (.bool false)], args := [d1, d2, d3] }
  | _ => none }
def LawS0602CNilAcceptedWrongFalsely : Prop := lawS0602CNilAcceptedRow.holds Yba.pinned (OpenSpec.ofChange lawS0602CNilAcceptedWrong)

end Rows
end Go.Proofs.Ybulklle
