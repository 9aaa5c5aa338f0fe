/-
  No cell of these rows narrows 'for every input' (looked for: loops, veiled, ifaces, maps, wideKeys, modest, calm, conditions, laid).
  DERIVED. THE GIVEN ROWS OF THIS SEAT. 5 by the template 'for every input the law returns true; each argument reads behind the call as it read before'; 0 by the template 'total and deterministic' (their statements: Qxb6600091aTotals.lean).
  GIVEN WITH THE SEED: the statements are not yours to turn. If you find one false, say at which input.
  Laid BY PROGRAM, IN A SANDBOX (cutbox-rows.mjs): the forced cells as the released guide's own fill.sh prints them over the translation dbdb19cb911981e1… (all of the seat's roots in one cut). By AI agents, Wed Nov 11 2026. No macro, syntax, notation, axiom, sorry.
-/
import Derived.Test.Qxb6600091aChecked
import GoSem.Claim
import GoSem.ClaimJoined
import GoSem.ClaimMapViews
import Derived.JoinedTies
import Derived.KernelRfl
namespace Go.Proofs.Qxb6600091a
/- THE CELL 'sum', in the pinned program and in every row, IS THE sha256 OF THE DUMP (.gsa) THAT Qxb6600091aProg.lean LOADS. Nothing in Lean hashes anything: it is a label: what it is worth is what the hold of that sum in a sandbox is worth. -/
noncomputable def Try.pinned : Pinned := { name := "qxb6600091a", sum := "dbdb19cb911981e1227a60a133c55a396607346adb71f4393b3ccafc0a15eb74", checked := Try.checked }
namespace Rows
def none {H : Type} : Left H := { results := [], args := [] }

/-- 'zzlaws_internal_jsonvalue_b1.FnSmallIntReadsBackEveryNineDigitInt': WHATEVER THE INPUT: true; the input reads as it did. -/
def fnSmallIntReadsBackEveryNineDigitIntSpec : ChangeSpec := { name := "fnSmallIntReadsBackEveryNineDigitInt", fn := fun _ => fun
  | [d] => { results := [.lit (.bool true)], args := [d] }
  | _ => none }
def fnSmallIntReadsBackEveryNineDigitIntRow : OpenClaim := { program := "qxb6600091a", sum := "dbdb19cb911981e1227a60a133c55a396607346adb71f4393b3ccafc0a15eb74", func := "example.com/portcullis/portcullis/zzlaws_internal_jsonvalue_b1.FnSmallIntReadsBackEveryNineDigitInt", spec := "fnSmallIntReadsBackEveryNineDigitInt", apart := false }
def FnSmallIntReadsBackEveryNineDigitIntSaid : Prop := fnSmallIntReadsBackEveryNineDigitIntRow.holds Try.pinned (OpenSpec.ofChange fnSmallIntReadsBackEveryNineDigitIntSpec)

/-- ITS FALSE NEIGHBOUR: 'it returns false'. Refute it at one input. -/
def fnSmallIntReadsBackEveryNineDigitIntWrong : ChangeSpec := { name := "fnSmallIntReadsBackEveryNineDigitInt", fn := fun _ => fun
  | [d] => { results := [.lit (.bool false)], args := [d] }
  | _ => none }
def FnSmallIntReadsBackEveryNineDigitIntWrongFalsely : Prop := fnSmallIntReadsBackEveryNineDigitIntRow.holds Try.pinned (OpenSpec.ofChange fnSmallIntReadsBackEveryNineDigitIntWrong)

/-- 'zzlaws_internal_jsonvalue_b1.FnSmallIntAcceptsExactlyShortDigitRuns': WHATEVER THE INPUT: true; the input reads as it did. -/
def fnSmallIntAcceptsExactlyShortDigitRunsSpec : ChangeSpec := { name := "fnSmallIntAcceptsExactlyShortDigitRuns", fn := fun _ => fun
  | [d] => { results := [.lit (.bool true)], args := [d] }
  | _ => none }
def fnSmallIntAcceptsExactlyShortDigitRunsRow : OpenClaim := { program := "qxb6600091a", sum := "dbdb19cb911981e1227a60a133c55a396607346adb71f4393b3ccafc0a15eb74", func := "example.com/portcullis/portcullis/zzlaws_internal_jsonvalue_b1.FnSmallIntAcceptsExactlyShortDigitRuns", spec := "fnSmallIntAcceptsExactlyShortDigitRuns", apart := false }
def FnSmallIntAcceptsExactlyShortDigitRunsSaid : Prop := fnSmallIntAcceptsExactlyShortDigitRunsRow.holds Try.pinned (OpenSpec.ofChange fnSmallIntAcceptsExactlyShortDigitRunsSpec)

/-- ITS FALSE NEIGHBOUR: 'it returns false'. Refute it at one input. -/
def fnSmallIntAcceptsExactlyShortDigitRunsWrong : ChangeSpec := { name := "fnSmallIntAcceptsExactlyShortDigitRuns", fn := fun _ => fun
  | [d] => { results := [.lit (.bool false)], args := [d] }
  | _ => none }
def FnSmallIntAcceptsExactlyShortDigitRunsWrongFalsely : Prop := fnSmallIntAcceptsExactlyShortDigitRunsRow.holds Try.pinned (OpenSpec.ofChange fnSmallIntAcceptsExactlyShortDigitRunsWrong)

/-- 'zzlaws_internal_jsonvalue_b1.FnAllocatedHoldsNAndWastesLittle': WHATEVER THE INPUT: true; the input reads as it did. -/
def fnAllocatedHoldsNAndWastesLittleSpec : ChangeSpec := { name := "fnAllocatedHoldsNAndWastesLittle", fn := fun _ => fun
  | [d] => { results := [.lit (.bool true)], args := [d] }
  | _ => none }
def fnAllocatedHoldsNAndWastesLittleRow : OpenClaim := { program := "qxb6600091a", sum := "dbdb19cb911981e1227a60a133c55a396607346adb71f4393b3ccafc0a15eb74", func := "example.com/portcullis/portcullis/zzlaws_internal_jsonvalue_b1.FnAllocatedHoldsNAndWastesLittle", spec := "fnAllocatedHoldsNAndWastesLittle", apart := false }
def FnAllocatedHoldsNAndWastesLittleSaid : Prop := fnAllocatedHoldsNAndWastesLittleRow.holds Try.pinned (OpenSpec.ofChange fnAllocatedHoldsNAndWastesLittleSpec)

/-- ITS FALSE NEIGHBOUR: 'it returns false'. Refute it at one input. -/
def fnAllocatedHoldsNAndWastesLittleWrong : ChangeSpec := { name := "fnAllocatedHoldsNAndWastesLittle", fn := fun _ => fun
  | [d] => { results := [.lit (.bool false)], args := [d] }
  | _ => none }
def FnAllocatedHoldsNAndWastesLittleWrongFalsely : Prop := fnAllocatedHoldsNAndWastesLittleRow.holds Try.pinned (OpenSpec.ofChange fnAllocatedHoldsNAndWastesLittleWrong)

/-- 'zzlaws_internal_jsonvalue_b1.FnAllocatedIsMonotone': WHATEVER THE INPUT: true; the input reads as it did. -/
def fnAllocatedIsMonotoneSpec : ChangeSpec := { name := "fnAllocatedIsMonotone", fn := fun _ => fun
  | [d1, d2] => { results := [.lit (.bool true)], args := [d1, d2] }
  | _ => none }
def fnAllocatedIsMonotoneRow : OpenClaim := { program := "qxb6600091a", sum := "dbdb19cb911981e1227a60a133c55a396607346adb71f4393b3ccafc0a15eb74", func := "example.com/portcullis/portcullis/zzlaws_internal_jsonvalue_b1.FnAllocatedIsMonotone", spec := "fnAllocatedIsMonotone", apart := false }
def FnAllocatedIsMonotoneSaid : Prop := fnAllocatedIsMonotoneRow.holds Try.pinned (OpenSpec.ofChange fnAllocatedIsMonotoneSpec)

/-- ITS FALSE NEIGHBOUR: 'it returns false'. Refute it at one input. -/
def fnAllocatedIsMonotoneWrong : ChangeSpec := { name := "fnAllocatedIsMonotone", fn := fun _ => fun
  | [d1, d2] => { results := [.lit (.bool false)], args := [d1, d2] }
  | _ => none }
def FnAllocatedIsMonotoneWrongFalsely : Prop := fnAllocatedIsMonotoneRow.holds Try.pinned (OpenSpec.ofChange fnAllocatedIsMonotoneWrong)

/-- 'zzlaws_internal_jsonvalue_b1.FnAllocatedClassIsItsOwnClass': WHATEVER THE INPUT: true; the input reads as it did. -/
def fnAllocatedClassIsItsOwnClassSpec : ChangeSpec := { name := "fnAllocatedClassIsItsOwnClass", fn := fun _ => fun
  | [d] => { results := [.lit (.bool true)], args := [d] }
  | _ => none }
def fnAllocatedClassIsItsOwnClassRow : OpenClaim := { program := "qxb6600091a", sum := "dbdb19cb911981e1227a60a133c55a396607346adb71f4393b3ccafc0a15eb74", func := "example.com/portcullis/portcullis/zzlaws_internal_jsonvalue_b1.FnAllocatedClassIsItsOwnClass", spec := "fnAllocatedClassIsItsOwnClass", apart := false }
def FnAllocatedClassIsItsOwnClassSaid : Prop := fnAllocatedClassIsItsOwnClassRow.holds Try.pinned (OpenSpec.ofChange fnAllocatedClassIsItsOwnClassSpec)

/-- ITS FALSE NEIGHBOUR: 'it returns false'. Refute it at one input. -/
def fnAllocatedClassIsItsOwnClassWrong : ChangeSpec := { name := "fnAllocatedClassIsItsOwnClass", fn := fun _ => fun
  | [d] => { results := [.lit (.bool false)], args := [d] }
  | _ => none }
def FnAllocatedClassIsItsOwnClassWrongFalsely : Prop := fnAllocatedClassIsItsOwnClassRow.holds Try.pinned (OpenSpec.ofChange fnAllocatedClassIsItsOwnClassWrong)

end Rows
end Go.Proofs.Qxb6600091a
