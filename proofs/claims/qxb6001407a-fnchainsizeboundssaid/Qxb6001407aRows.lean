/-
  No cell of these rows narrows 'for every input' (looked for: loops, veiled, ifaces, maps, wideKeys, modest, calm, conditions, laid).
  DERIVED. THE GIVEN ROWS OF THIS SEAT. 8 by the template 'for every input the law returns true; each argument reads behind the call as it read before'; 0 by the template 'total and deterministic' (their statements: Qxb6001407aTotals.lean).
  GIVEN WITH THE SEED: the statements are not yours to turn. If you find one false, say at which input.
  Laid BY PROGRAM, IN A SANDBOX (cutbox-rows.mjs): the forced cells as the released guide's own fill.sh prints them over the translation 92913ef141d10887… (all of the seat's roots in one cut). By AI agents, Wed Nov 11 2026. No macro, syntax, notation, axiom, sorry.
-/
import Derived.Test.Qxb6001407aChecked
import GoSem.Claim
import GoSem.ClaimJoined
import GoSem.ClaimMapViews
import Derived.JoinedTies
import Derived.KernelRfl
namespace Go.Proofs.Qxb6001407a
/- THE CELL 'sum', in the pinned program and in every row, IS THE sha256 OF THE DUMP (.gsa) THAT Qxb6001407aProg.lean LOADS. Nothing in Lean hashes anything: it is a label: what it is worth is what the hold of that sum in a sandbox is worth. -/
noncomputable def Try.pinned : Pinned := { name := "qxb6001407a", sum := "92913ef141d108870a2cf2de5a19fc3c55e1b35cc341e55a1e9fcf37d4760c53", checked := Try.checked }
namespace Rows
def none {H : Type} : Left H := { results := [], args := [] }

/-- 'zzlaws_pkg_policy_b1.FnOpHoldsComplements': WHATEVER THE INPUT: true; the input reads as it did. -/
def fnOpHoldsComplementsSpec : ChangeSpec := { name := "fnOpHoldsComplements", fn := fun _ => fun
  | [d] => { results := [.lit (.bool true)], args := [d] }
  | _ => none }
def fnOpHoldsComplementsRow : OpenClaim := { program := "qxb6001407a", sum := "92913ef141d108870a2cf2de5a19fc3c55e1b35cc341e55a1e9fcf37d4760c53", func := "example.com/guanlian/guanlian/zzlaws_pkg_policy_b1.FnOpHoldsComplements", spec := "fnOpHoldsComplements", apart := false }
def FnOpHoldsComplementsSaid : Prop := fnOpHoldsComplementsRow.holds Try.pinned (OpenSpec.ofChange fnOpHoldsComplementsSpec)

/-- ITS FALSE NEIGHBOUR: 'it returns false'. Refute it at one input. -/
def fnOpHoldsComplementsWrong : ChangeSpec := { name := "fnOpHoldsComplements", fn := fun _ => fun
  | [d] => { results := [.lit (.bool false)], args := [d] }
  | _ => none }
def FnOpHoldsComplementsWrongFalsely : Prop := fnOpHoldsComplementsRow.holds Try.pinned (OpenSpec.ofChange fnOpHoldsComplementsWrong)

/-- 'zzlaws_pkg_policy_b1.FnOpHoldsMirror': WHATEVER THE INPUT: true; the input reads as it did. -/
def fnOpHoldsMirrorSpec : ChangeSpec := { name := "fnOpHoldsMirror", fn := fun _ => fun
  | [d] => { results := [.lit (.bool true)], args := [d] }
  | _ => none }
def fnOpHoldsMirrorRow : OpenClaim := { program := "qxb6001407a", sum := "92913ef141d108870a2cf2de5a19fc3c55e1b35cc341e55a1e9fcf37d4760c53", func := "example.com/guanlian/guanlian/zzlaws_pkg_policy_b1.FnOpHoldsMirror", spec := "fnOpHoldsMirror", apart := false }
def FnOpHoldsMirrorSaid : Prop := fnOpHoldsMirrorRow.holds Try.pinned (OpenSpec.ofChange fnOpHoldsMirrorSpec)

/-- ITS FALSE NEIGHBOUR: 'it returns false'. Refute it at one input. -/
def fnOpHoldsMirrorWrong : ChangeSpec := { name := "fnOpHoldsMirror", fn := fun _ => fun
  | [d] => { results := [.lit (.bool false)], args := [d] }
  | _ => none }
def FnOpHoldsMirrorWrongFalsely : Prop := fnOpHoldsMirrorRow.holds Try.pinned (OpenSpec.ofChange fnOpHoldsMirrorWrong)

/-- 'zzlaws_pkg_policy_b1.FnOpHoldsSignAloneUnknownRefused': WHATEVER THE INPUT: true; the input reads as it did. -/
def fnOpHoldsSignAloneUnknownRefusedSpec : ChangeSpec := { name := "fnOpHoldsSignAloneUnknownRefused", fn := fun _ => fun
  | [d1, d2] => { results := [.lit (.bool true)], args := [d1, d2] }
  | _ => none }
def fnOpHoldsSignAloneUnknownRefusedRow : OpenClaim := { program := "qxb6001407a", sum := "92913ef141d108870a2cf2de5a19fc3c55e1b35cc341e55a1e9fcf37d4760c53", func := "example.com/guanlian/guanlian/zzlaws_pkg_policy_b1.FnOpHoldsSignAloneUnknownRefused", spec := "fnOpHoldsSignAloneUnknownRefused", apart := false }
def FnOpHoldsSignAloneUnknownRefusedSaid : Prop := fnOpHoldsSignAloneUnknownRefusedRow.holds Try.pinned (OpenSpec.ofChange fnOpHoldsSignAloneUnknownRefusedSpec)

/-- ITS FALSE NEIGHBOUR: 'it returns false'. Refute it at one input. -/
def fnOpHoldsSignAloneUnknownRefusedWrong : ChangeSpec := { name := "fnOpHoldsSignAloneUnknownRefused", fn := fun _ => fun
  | [d1, d2] => { results := [.lit (.bool false)], args := [d1, d2] }
  | _ => none }
def FnOpHoldsSignAloneUnknownRefusedWrongFalsely : Prop := fnOpHoldsSignAloneUnknownRefusedRow.holds Try.pinned (OpenSpec.ofChange fnOpHoldsSignAloneUnknownRefusedWrong)

/-- 'zzlaws_pkg_policy_b1.FnChainSizeBounds': WHATEVER THE INPUT: true; the input reads as it did. -/
def fnChainSizeBoundsSpec : ChangeSpec := { name := "fnChainSizeBounds", fn := fun _ => fun
  | [d] => { results := [.lit (.bool true)], args := [d] }
  | _ => none }
def fnChainSizeBoundsRow : OpenClaim := { program := "qxb6001407a", sum := "92913ef141d108870a2cf2de5a19fc3c55e1b35cc341e55a1e9fcf37d4760c53", func := "example.com/guanlian/guanlian/zzlaws_pkg_policy_b1.FnChainSizeBounds", spec := "fnChainSizeBounds", apart := false }
def FnChainSizeBoundsSaid : Prop := fnChainSizeBoundsRow.holds Try.pinned (OpenSpec.ofChange fnChainSizeBoundsSpec)

/-- ITS FALSE NEIGHBOUR: 'it returns false'. Refute it at one input. -/
def fnChainSizeBoundsWrong : ChangeSpec := { name := "fnChainSizeBounds", fn := fun _ => fun
  | [d] => { results := [.lit (.bool false)], args := [d] }
  | _ => none }
def FnChainSizeBoundsWrongFalsely : Prop := fnChainSizeBoundsRow.holds Try.pinned (OpenSpec.ofChange fnChainSizeBoundsWrong)

/-- 'zzlaws_pkg_policy_b1.FnChainSizeAdditive': WHATEVER THE INPUT: true; the input reads as it did. -/
def fnChainSizeAdditiveSpec : ChangeSpec := { name := "fnChainSizeAdditive", fn := fun _ => fun
  | [d1, d2] => { results := [.lit (.bool true)], args := [d1, d2] }
  | _ => none }
def fnChainSizeAdditiveRow : OpenClaim := { program := "qxb6001407a", sum := "92913ef141d108870a2cf2de5a19fc3c55e1b35cc341e55a1e9fcf37d4760c53", func := "example.com/guanlian/guanlian/zzlaws_pkg_policy_b1.FnChainSizeAdditive", spec := "fnChainSizeAdditive", apart := false }
def FnChainSizeAdditiveSaid : Prop := fnChainSizeAdditiveRow.holds Try.pinned (OpenSpec.ofChange fnChainSizeAdditiveSpec)

/-- ITS FALSE NEIGHBOUR: 'it returns false'. Refute it at one input. -/
def fnChainSizeAdditiveWrong : ChangeSpec := { name := "fnChainSizeAdditive", fn := fun _ => fun
  | [d1, d2] => { results := [.lit (.bool false)], args := [d1, d2] }
  | _ => none }
def FnChainSizeAdditiveWrongFalsely : Prop := fnChainSizeAdditiveRow.holds Try.pinned (OpenSpec.ofChange fnChainSizeAdditiveWrong)

/-- 'zzlaws_pkg_policy_b1.FnChainSizeOrderFreeNotesFree': WHATEVER THE INPUT: true; the input reads as it did. -/
def fnChainSizeOrderFreeNotesFreeSpec : ChangeSpec := { name := "fnChainSizeOrderFreeNotesFree", fn := fun _ => fun
  | [d1, d2] => { results := [.lit (.bool true)], args := [d1, d2] }
  | _ => none }
def fnChainSizeOrderFreeNotesFreeRow : OpenClaim := { program := "qxb6001407a", sum := "92913ef141d108870a2cf2de5a19fc3c55e1b35cc341e55a1e9fcf37d4760c53", func := "example.com/guanlian/guanlian/zzlaws_pkg_policy_b1.FnChainSizeOrderFreeNotesFree", spec := "fnChainSizeOrderFreeNotesFree", apart := false }
def FnChainSizeOrderFreeNotesFreeSaid : Prop := fnChainSizeOrderFreeNotesFreeRow.holds Try.pinned (OpenSpec.ofChange fnChainSizeOrderFreeNotesFreeSpec)

/-- ITS FALSE NEIGHBOUR: 'it returns false'. Refute it at one input. -/
def fnChainSizeOrderFreeNotesFreeWrong : ChangeSpec := { name := "fnChainSizeOrderFreeNotesFree", fn := fun _ => fun
  | [d1, d2] => { results := [.lit (.bool false)], args := [d1, d2] }
  | _ => none }
def FnChainSizeOrderFreeNotesFreeWrongFalsely : Prop := fnChainSizeOrderFreeNotesFreeRow.holds Try.pinned (OpenSpec.ofChange fnChainSizeOrderFreeNotesFreeWrong)

/-- 'zzlaws_pkg_policy_b1.FnWithinPartialOrder': WHATEVER THE INPUT: true; the input reads as it did. -/
def fnWithinPartialOrderSpec : ChangeSpec := { name := "fnWithinPartialOrder", fn := fun _ => fun
  | [d1, d2, d3] => { results := [.lit (.bool true)], args := [d1, d2, d3] }
  | _ => none }
def fnWithinPartialOrderRow : OpenClaim := { program := "qxb6001407a", sum := "92913ef141d108870a2cf2de5a19fc3c55e1b35cc341e55a1e9fcf37d4760c53", func := "example.com/guanlian/guanlian/zzlaws_pkg_policy_b1.FnWithinPartialOrder", spec := "fnWithinPartialOrder", apart := false }
def FnWithinPartialOrderSaid : Prop := fnWithinPartialOrderRow.holds Try.pinned (OpenSpec.ofChange fnWithinPartialOrderSpec)

/-- ITS FALSE NEIGHBOUR: 'it returns false'. Refute it at one input. -/
def fnWithinPartialOrderWrong : ChangeSpec := { name := "fnWithinPartialOrder", fn := fun _ => fun
  | [d1, d2, d3] => { results := [.lit (.bool false)], args := [d1, d2, d3] }
  | _ => none }
def FnWithinPartialOrderWrongFalsely : Prop := fnWithinPartialOrderRow.holds Try.pinned (OpenSpec.ofChange fnWithinPartialOrderWrong)

/-- 'zzlaws_pkg_policy_b1.FnWithinBroadOffices': WHATEVER THE INPUT: true; the input reads as it did. -/
def fnWithinBroadOfficesSpec : ChangeSpec := { name := "fnWithinBroadOffices", fn := fun _ => fun
  | [d1, d2] => { results := [.lit (.bool true)], args := [d1, d2] }
  | _ => none }
def fnWithinBroadOfficesRow : OpenClaim := { program := "qxb6001407a", sum := "92913ef141d108870a2cf2de5a19fc3c55e1b35cc341e55a1e9fcf37d4760c53", func := "example.com/guanlian/guanlian/zzlaws_pkg_policy_b1.FnWithinBroadOffices", spec := "fnWithinBroadOffices", apart := false }
def FnWithinBroadOfficesSaid : Prop := fnWithinBroadOfficesRow.holds Try.pinned (OpenSpec.ofChange fnWithinBroadOfficesSpec)

/-- ITS FALSE NEIGHBOUR: 'it returns false'. Refute it at one input. -/
def fnWithinBroadOfficesWrong : ChangeSpec := { name := "fnWithinBroadOffices", fn := fun _ => fun
  | [d1, d2] => { results := [.lit (.bool false)], args := [d1, d2] }
  | _ => none }
def FnWithinBroadOfficesWrongFalsely : Prop := fnWithinBroadOfficesRow.holds Try.pinned (OpenSpec.ofChange fnWithinBroadOfficesWrong)

end Rows
end Go.Proofs.Qxb6001407a
