/-
  No cell of these rows narrows 'for every input' (looked for: loops, veiled, ifaces, maps, wideKeys, modest, calm, conditions, laid).
  DERIVED. THE GIVEN ROWS OF THIS SEAT. 4 by the template 'for every input the law returns true; each argument reads behind the call as it read before'; 0 by the template 'total and deterministic' (their statements: YbulkaoiwTotals.lean).
  GIVEN WITH THE SEED: the statements are not yours to turn. If you find one false, say at which input.
  Laid BY PROGRAM, IN A SANDBOX (cutbox-rows.mjs): the forced cells as the released guide's own fill.sh prints them over the translation 751b001d0d71b68e… (all of the seat's roots in one cut). By AI agents, Wed Nov 11 2026. No macro, syntax, notation, axiom, sorry.
-/
import Derived.Test.YbulkaoiwChecked
import GoSem.Claim
import GoSem.ClaimJoined
import GoSem.ClaimMapViews
import Derived.JoinedTies
import Derived.KernelRfl
namespace Go.Proofs.Ybulkaoiw
/- THE CELL 'sum', in the pinned program and in every row, IS THE sha256 OF THE DUMP (.gsa) THAT YbulkaoiwProg.lean LOADS. Nothing in Lean hashes anything: it is a label: what it is worth is what the hold of that sum in a sandbox is worth. -/
noncomputable def Yba.pinned : Pinned := { name := "ybulkaoiw", sum := "751b001d0d71b68ef0921bbe5387b51f43d6643eb2ef39094529c56a3579f640", checked := Yba.checked }
namespace Rows
def none {H : Type} : Left H := { results := [], args := [] }

/-- 'splitphase.LawS1998AOutcome': WHATEVER THE INPUT: true; the input reads as it did. -/
def lawS1998AOutcomeSpec : ChangeSpec := { name := "lawS1998AOutcome", fn := fun _ => fun
  | [d1, d2, d3, d4, d5] => { results := [.lit (.bool true)], args := [d1, d2, d3, d4, d5] }
  | _ => none }
def lawS1998AOutcomeRow : OpenClaim := { program := "ybulkaoiw", sum := "751b001d0d71b68ef0921bbe5387b51f43d6643eb2ef39094529c56a3579f640", func := "example.com/splitphase/splitphase.LawS1998AOutcome", spec := "lawS1998AOutcome", inPlace := ["sync/atomic.StoreUint32", "sync/atomic.LoadUint32", "sync/atomic.CompareAndSwapUint32", "sync/atomic.LoadInt32"], recurses := true, plainKeys := false, apart := false }
def LawS1998AOutcomeSaid : Prop := lawS1998AOutcomeRow.holds Yba.pinned (OpenSpec.ofChange lawS1998AOutcomeSpec)

/-- ITS FALSE NEIGHBOUR: 'it returns false'. Refute it at one input. -/
def lawS1998AOutcomeWrong : ChangeSpec := { name := "lawS1998AOutcome", fn := fun _ => fun
  | [d1, d2, d3, d4, d5] => { results := [.lit (.bool false)], args := [d1, d2, d3, d4, d5] }
  | _ => none }
def LawS1998AOutcomeWrongFalsely : Prop := lawS1998AOutcomeRow.holds Yba.pinned (OpenSpec.ofChange lawS1998AOutcomeWrong)

/-- 'splitphase.LawS1998ATwice': WHATEVER THE INPUT: true; the input reads as it did. -/
def lawS1998ATwiceSpec : ChangeSpec := { name := "lawS1998ATwice", fn := fun _ => fun
  | [d1, d2, d3] => { results := [.lit (.bool true)], args := [d1, d2, d3] }
  | _ => none }
def lawS1998ATwiceRow : OpenClaim := { program := "ybulkaoiw", sum := "751b001d0d71b68ef0921bbe5387b51f43d6643eb2ef39094529c56a3579f640", func := "example.com/splitphase/splitphase.LawS1998ATwice", spec := "lawS1998ATwice", inPlace := ["sync/atomic.StoreUint32", "sync/atomic.LoadUint32", "sync/atomic.CompareAndSwapUint32", "sync/atomic.LoadInt32"], recurses := true, plainKeys := false, apart := false }
def LawS1998ATwiceSaid : Prop := lawS1998ATwiceRow.holds Yba.pinned (OpenSpec.ofChange lawS1998ATwiceSpec)

/-- ITS FALSE NEIGHBOUR: 'it returns false'. Refute it at one input. -/
def lawS1998ATwiceWrong : ChangeSpec := { name := "lawS1998ATwice", fn := fun _ => fun
  | [d1, d2, d3] => { results := [.lit (.bool false)], args := [d1, d2, d3] }
  | _ => none }
def LawS1998ATwiceWrongFalsely : Prop := lawS1998ATwiceRow.holds Yba.pinned (OpenSpec.ofChange lawS1998ATwiceWrong)

/-- 'splitphase.LawS1998CDecodes': WHATEVER THE INPUT: true; the input reads as it did. -/
def lawS1998CDecodesSpec : ChangeSpec := { name := "lawS1998CDecodes", fn := fun _ => fun
  | [d1, d2, d3, d4, d5, d6, d7, d8, d9, d10, d11] => { results := [.lit (.bool true)], args := [d1, d2, d3, d4, d5, d6, d7, d8, d9, d10, d11] }
  | _ => none }
def lawS1998CDecodesRow : OpenClaim := { program := "ybulkaoiw", sum := "751b001d0d71b68ef0921bbe5387b51f43d6643eb2ef39094529c56a3579f640", func := "example.com/splitphase/splitphase.LawS1998CDecodes", spec := "lawS1998CDecodes", recurses := true, plainKeys := false, apart := false }
def LawS1998CDecodesSaid : Prop := lawS1998CDecodesRow.holds Yba.pinned (OpenSpec.ofChange lawS1998CDecodesSpec)

/-- ITS FALSE NEIGHBOUR: 'it returns false'. Refute it at one input. -/
def lawS1998CDecodesWrong : ChangeSpec := { name := "lawS1998CDecodes", fn := fun _ => fun
  | [d1, d2, d3, d4, d5, d6, d7, d8, d9, d10, d11] => { results := [.lit (.bool false)], args := [d1, d2, d3, d4, d5, d6, d7, d8, d9, d10, d11] }
  | _ => none }
def LawS1998CDecodesWrongFalsely : Prop := lawS1998CDecodesRow.holds Yba.pinned (OpenSpec.ofChange lawS1998CDecodesWrong)

/-- 'splitphase.LawS1998CPrefix': WHATEVER THE INPUT: true; the input reads as it did. -/
def lawS1998CPrefixSpec : ChangeSpec := { name := "lawS1998CPrefix", fn := fun _ => fun
  | [d1, d2, d3, d4, d5, d6, d7, d8, d9, d10, d11] => { results := [.lit (.bool true)], args := [d1, d2, d3, d4, d5, d6, d7, d8, d9, d10, d11] }
  | _ => none }
def lawS1998CPrefixRow : OpenClaim := { program := "ybulkaoiw", sum := "751b001d0d71b68ef0921bbe5387b51f43d6643eb2ef39094529c56a3579f640", func := "example.com/splitphase/splitphase.LawS1998CPrefix", spec := "lawS1998CPrefix", recurses := true, plainKeys := false, apart := false }
def LawS1998CPrefixSaid : Prop := lawS1998CPrefixRow.holds Yba.pinned (OpenSpec.ofChange lawS1998CPrefixSpec)

/-- ITS FALSE NEIGHBOUR: 'it returns false'. Refute it at one input. -/
def lawS1998CPrefixWrong : ChangeSpec := { name := "lawS1998CPrefix", fn := fun _ => fun
  | [d1, d2, d3, d4, d5, d6, d7, d8, d9, d10, d11] => { results := [.lit (.bool false)], args := [d1, d2, d3, d4, d5, d6, d7, d8, d9, d10, d11] }
  | _ => none }
def LawS1998CPrefixWrongFalsely : Prop := lawS1998CPrefixRow.holds Yba.pinned (OpenSpec.ofChange lawS1998CPrefixWrong)

end Rows
end Go.Proofs.Ybulkaoiw
