/-
  No cell of these rows narrows 'for every input' (looked for: loops, veiled, ifaces, maps, wideKeys, modest, calm, conditions, laid).
  DERIVED. THE GIVEN ROWS OF THIS SEAT. 5 by the template 'for every input the law returns true; each argument reads behind the call as it read before'; 0 by the template 'total and deterministic' (their statements: YbulklqoTotals.lean).
  GIVEN WITH THE SEED: the statements are not yours to turn. If you find one false, say at which input.
  Laid BY PROGRAM, IN A SANDBOX (cutbox-rows.mjs): the forced cells as the released guide's own fill.sh prints them over the translation 4b9a28d4cefbddfa… (all of the seat's roots in one cut). By AI agents, Wed Nov 11 2026. No macro, syntax, notation, axiom, sorry.
-/
import Derived.Test.YbulklqoChecked
import GoSem.Claim
import GoSem.ClaimJoined
import GoSem.ClaimMapViews
import Derived.JoinedTies
import Derived.KernelRfl
namespace Go.Proofs.Ybulklqo
/- THE CELL 'sum', in the pinned program and in every row, IS THE sha256 OF THE DUMP (.gsa) THAT YbulklqoProg.lean LOADS. Nothing in Lean hashes anything: it is a label: what it is worth is what the hold of that sum in a sandbox is worth. -/
noncomputable def Yba.pinned : Pinned := { name := "ybulklqo", sum := "4b9a28d4cefbddfa0a7280a647589b8acc166d00acd758e2e8e22e588b4642bb", checked := Yba.checked }
namespace Rows
def none {H : Type} : Left H := { results := [], args := [] }

/-- 'lock.LawS0612AExact': WHATEVER THE INPUT: true; the input reads as it did. -/
def lawS0612AExactSpec : ChangeSpec := { name := "lawS0612AExact", fn := fun _ => fun
  | [d1, d2, d3, d4, d5] => { results := [.lit (.bool true)], args := [d1, d2, d3, d4, d5] }
  | _ => none }
def lawS0612AExactRow : OpenClaim := { program := "ybulklqo", sum := "4b9a28d4cefbddfa0a7280a647589b8acc166d00acd758e2e8e22e588b4642bb", func := "example.com/concord/concord/internal/lock.LawS0612AExact", spec := "lawS0612AExact", apart := false }
def LawS0612AExactSaid : Prop := lawS0612AExactRow.holds Yba.pinned (OpenSpec.ofChange lawS0612AExactSpec)

/-- ITS FALSE NEIGHBOUR: 'it returns false'. Refute it at one input. -/
def lawS0612AExactWrong : ChangeSpec := { name := "lawS0612AExact", fn := fun _ => fun
  | [d1, d2, d3, d4, d5] => { results := [.lit (.bool false)], args := [d1, d2, d3, d4, d5] }
  | _ => none }
def LawS0612AExactWrongFalsely : Prop := lawS0612AExactRow.holds Yba.pinned (OpenSpec.ofChange lawS0612AExactWrong)

/-- 'lock.LawS0612ASibling': WHATEVER THE INPUT: true; the input reads as it did. -/
def lawS0612ASiblingSpec : ChangeSpec := { name := "lawS0612ASibling", fn := fun _ => fun
  | [d1, d2, d3, d4, d5] => { results := [.lit (.bool true)], args := [d1, d2, d3, d4, d5] }
  | _ => none }
def lawS0612ASiblingRow : OpenClaim := { program := "ybulklqo", sum := "4b9a28d4cefbddfa0a7280a647589b8acc166d00acd758e2e8e22e588b4642bb", func := "example.com/concord/concord/internal/lock.LawS0612ASibling", spec := "lawS0612ASibling", apart := false }
def LawS0612ASiblingSaid : Prop := lawS0612ASiblingRow.holds Yba.pinned (OpenSpec.ofChange lawS0612ASiblingSpec)

/-- ITS FALSE NEIGHBOUR: 'it returns false'. Refute it at one input. -/
def lawS0612ASiblingWrong : ChangeSpec := { name := "lawS0612ASibling", fn := fun _ => fun
  | [d1, d2, d3, d4, d5] => { results := [.lit (.bool false)], args := [d1, d2, d3, d4, d5] }
  | _ => none }
def LawS0612ASiblingWrongFalsely : Prop := lawS0612ASiblingRow.holds Yba.pinned (OpenSpec.ofChange lawS0612ASiblingWrong)

/-- 'protocol.LawS0612BPlainRefuses': WHATEVER THE INPUT: true; the input reads as it did. -/
def lawS0612BPlainRefusesSpec : ChangeSpec := { name := "lawS0612BPlainRefuses", fn := fun _ => fun
  | [d1, d2, d3, d4, d5, d6, d7, d8, d9, d10, d11, d12] => { results := [.lit (.bool true)], args := [d1, d2, d3, d4, d5, d6, d7, d8, d9, d10, d11, d12] }
  | _ => none }
def lawS0612BPlainRefusesRow : OpenClaim := { program := "ybulklqo", sum := "4b9a28d4cefbddfa0a7280a647589b8acc166d00acd758e2e8e22e588b4642bb", func := "example.com/concord/concord/internal/protocol.LawS0612BPlainRefuses", spec := "lawS0612BPlainRefuses", inPlace := ["(*internal/sync.Mutex).TryLock", "internal/race.Disable", "internal/race.Enable", "sync/atomic.CompareAndSwapInt32", "internal/race.Acquire", "(*internal/sync.Mutex).Lock", "(*internal/sync.Mutex).lockSlow", "internal/sync.runtime_canSpin", "internal/sync.runtime_doSpin", "internal/sync.throw", "internal/sync.runtime_nanotime", "internal/sync.runtime_SemacquireMutex", "sync/atomic.AddInt32", "sync/atomic.AddInt64", "slices.overlaps[example.com/concord/concord/internal/protocol.pinned]", "sync/atomic.LoadPointer", "sync/atomic.LoadInt64", "sync/atomic.StoreInt64", "sync/atomic.StorePointer", "(*internal/sync.Mutex).Unlock", "internal/race.ReleaseMerge", "(*internal/sync.Mutex).unlockSlow", "internal/sync.fatal", "internal/sync.runtime_Semrelease"], unfollowed := true, recurses := true, apart := false }
def LawS0612BPlainRefusesSaid : Prop := lawS0612BPlainRefusesRow.holds Yba.pinned (OpenSpec.ofChange lawS0612BPlainRefusesSpec)

/-- ITS FALSE NEIGHBOUR: 'it returns false'. Refute it at one input. -/
def lawS0612BPlainRefusesWrong : ChangeSpec := { name := "lawS0612BPlainRefuses", fn := fun _ => fun
  | [d1, d2, d3, d4, d5, d6, d7, d8, d9, d10, d11, d12] => { results := [.lit (.bool false)], args := [d1, d2, d3, d4, d5, d6, d7, d8, d9, d10, d11, d12] }
  | _ => none }
def LawS0612BPlainRefusesWrongFalsely : Prop := lawS0612BPlainRefusesRow.holds Yba.pinned (OpenSpec.ofChange lawS0612BPlainRefusesWrong)

/-- 'lock.LawS0612CReset': WHATEVER THE INPUT: true; the input reads as it did. -/
def lawS0612CResetSpec : ChangeSpec := { name := "lawS0612CReset", fn := fun _ => fun
  | [d1, d2, d3, d4] => { results := [.lit (.bool true)], args := [d1, d2, d3, d4] }
  | _ => none }
def lawS0612CResetRow : OpenClaim := { program := "ybulklqo", sum := "4b9a28d4cefbddfa0a7280a647589b8acc166d00acd758e2e8e22e588b4642bb", func := "example.com/concord/concord/internal/lock.LawS0612CReset", spec := "lawS0612CReset", apart := false }
def LawS0612CResetSaid : Prop := lawS0612CResetRow.holds Yba.pinned (OpenSpec.ofChange lawS0612CResetSpec)

/-- ITS FALSE NEIGHBOUR: 'it returns false'. Refute it at one input. -/
def lawS0612CResetWrong : ChangeSpec := { name := "lawS0612CReset", fn := fun _ => fun
  | [d1, d2, d3, d4] => { results := [.lit (.bool false)], args := [d1, d2, d3, d4] }
  | _ => none }
def LawS0612CResetWrongFalsely : Prop := lawS0612CResetRow.holds Yba.pinned (OpenSpec.ofChange lawS0612CResetWrong)

/-- 'lock.LawS0612CZero': WHATEVER THE INPUT: true; the input reads as it did. -/
def lawS0612CZeroSpec : ChangeSpec := { name := "lawS0612CZero", fn := fun _ => fun
  | [d] => { results := [.lit (.bool true)], args := [d] }
  | _ => none }
def lawS0612CZeroRow : OpenClaim := { program := "ybulklqo", sum := "4b9a28d4cefbddfa0a7280a647589b8acc166d00acd758e2e8e22e588b4642bb", func := "example.com/concord/concord/internal/lock.LawS0612CZero", spec := "lawS0612CZero", apart := false }
def LawS0612CZeroSaid : Prop := lawS0612CZeroRow.holds Yba.pinned (OpenSpec.ofChange lawS0612CZeroSpec)

/-- ITS FALSE NEIGHBOUR: 'it returns false'. Refute it at one input. -/
def lawS0612CZeroWrong : ChangeSpec := { name := "lawS0612CZero", fn := fun _ => fun
  | [d] => { results := [.lit (.bool false)], args := [d] }
  | _ => none }
def LawS0612CZeroWrongFalsely : Prop := lawS0612CZeroRow.holds Yba.pinned (OpenSpec.ofChange lawS0612CZeroWrong)

end Rows
end Go.Proofs.Ybulklqo
