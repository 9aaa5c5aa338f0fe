/-
  No cell of these rows narrows 'for every input' (looked for: loops, veiled, ifaces, maps, wideKeys, modest, calm, conditions, laid).
  DERIVED. THE GIVEN ROWS OF THIS SEAT. 3 by the template 'for every input the law returns true; each argument reads behind the call as it read before'; 0 by the template 'total and deterministic' (their statements: Qxb6001569aTotals.lean).
  GIVEN WITH THE SEED: the statements are not yours to turn. If you find one false, say at which input.
  Laid BY PROGRAM, IN A SANDBOX (cutbox-rows.mjs): the forced cells as the released guide's own fill.sh prints them over the translation ecfb3e308b6f98c1… (all of the seat's roots in one cut). By AI agents, Wed Nov 11 2026. No macro, syntax, notation, axiom, sorry.
-/
import Derived.Test.Qxb6001569aChecked
import GoSem.Claim
import GoSem.ClaimJoined
import GoSem.ClaimMapViews
import Derived.JoinedTies
import Derived.KernelRfl
namespace Go.Proofs.Qxb6001569a
/- THE CELL 'sum', in the pinned program and in every row, IS THE sha256 OF THE DUMP (.gsa) THAT Qxb6001569aProg.lean LOADS. Nothing in Lean hashes anything: it is a label: what it is worth is what the hold of that sum in a sandbox is worth. -/
noncomputable def Try.pinned : Pinned := { name := "qxb6001569a", sum := "ecfb3e308b6f98c11102a24631d6d862ea608d51017029609b725e6208179d1b", checked := Try.checked }
namespace Rows
def none {H : Type} : Left H := { results := [], args := [] }

/-- 'zzlaws_input_b1.FnIsDigitsConcat': WHATEVER THE INPUT: true; the input reads as it did. -/
def fnIsDigitsConcatSpec : ChangeSpec := { name := "fnIsDigitsConcat", fn := fun _ => fun
  | [d1, d2] => { results := [.lit (.bool true)], args := [d1, d2] }
  | _ => none }
def fnIsDigitsConcatRow : OpenClaim := { program := "qxb6001569a", sum := "ecfb3e308b6f98c11102a24631d6d862ea608d51017029609b725e6208179d1b", func := "example.com/zhaomu/zhaomu/zzlaws_input_b1.FnIsDigitsConcat", spec := "fnIsDigitsConcat", apart := false }
def FnIsDigitsConcatSaid : Prop := fnIsDigitsConcatRow.holds Try.pinned (OpenSpec.ofChange fnIsDigitsConcatSpec)

/-- ITS FALSE NEIGHBOUR: 'it returns false'. Refute it at one input. -/
def fnIsDigitsConcatWrong : ChangeSpec := { name := "fnIsDigitsConcat", fn := fun _ => fun
  | [d1, d2] => { results := [.lit (.bool false)], args := [d1, d2] }
  | _ => none }
def FnIsDigitsConcatWrongFalsely : Prop := fnIsDigitsConcatRow.holds Try.pinned (OpenSpec.ofChange fnIsDigitsConcatWrong)

/-- 'zzlaws_input_b1.FnIsDigitsAcceptsDecimal': WHATEVER THE INPUT: true; the input reads as it did. -/
def fnIsDigitsAcceptsDecimalSpec : ChangeSpec := { name := "fnIsDigitsAcceptsDecimal", fn := fun _ => fun
  | [d1, d2] => { results := [.lit (.bool true)], args := [d1, d2] }
  | _ => none }
def fnIsDigitsAcceptsDecimalRow : OpenClaim := { program := "qxb6001569a", sum := "ecfb3e308b6f98c11102a24631d6d862ea608d51017029609b725e6208179d1b", func := "example.com/zhaomu/zhaomu/zzlaws_input_b1.FnIsDigitsAcceptsDecimal", spec := "fnIsDigitsAcceptsDecimal", apart := false }
def FnIsDigitsAcceptsDecimalSaid : Prop := fnIsDigitsAcceptsDecimalRow.holds Try.pinned (OpenSpec.ofChange fnIsDigitsAcceptsDecimalSpec)

/-- ITS FALSE NEIGHBOUR: 'it returns false'. Refute it at one input. -/
def fnIsDigitsAcceptsDecimalWrong : ChangeSpec := { name := "fnIsDigitsAcceptsDecimal", fn := fun _ => fun
  | [d1, d2] => { results := [.lit (.bool false)], args := [d1, d2] }
  | _ => none }
def FnIsDigitsAcceptsDecimalWrongFalsely : Prop := fnIsDigitsAcceptsDecimalRow.holds Try.pinned (OpenSpec.ofChange fnIsDigitsAcceptsDecimalWrong)

/-- 'zzlaws_input_b1.FnIsDigitsRefusesForeignByte': WHATEVER THE INPUT: true; the input reads as it did. -/
def fnIsDigitsRefusesForeignByteSpec : ChangeSpec := { name := "fnIsDigitsRefusesForeignByte", fn := fun _ => fun
  | [d1, d2, d3] => { results := [.lit (.bool true)], args := [d1, d2, d3] }
  | _ => none }
def fnIsDigitsRefusesForeignByteRow : OpenClaim := { program := "qxb6001569a", sum := "ecfb3e308b6f98c11102a24631d6d862ea608d51017029609b725e6208179d1b", func := "example.com/zhaomu/zhaomu/zzlaws_input_b1.FnIsDigitsRefusesForeignByte", spec := "fnIsDigitsRefusesForeignByte", apart := false }
def FnIsDigitsRefusesForeignByteSaid : Prop := fnIsDigitsRefusesForeignByteRow.holds Try.pinned (OpenSpec.ofChange fnIsDigitsRefusesForeignByteSpec)

/-- ITS FALSE NEIGHBOUR: 'it returns false'. Refute it at one input. -/
def fnIsDigitsRefusesForeignByteWrong : ChangeSpec := { name := "fnIsDigitsRefusesForeignByte", fn := fun _ => fun
  | [d1, d2, d3] => { results := [.lit (.bool false)], args := [d1, d2, d3] }
  | _ => none }
def FnIsDigitsRefusesForeignByteWrongFalsely : Prop := fnIsDigitsRefusesForeignByteRow.holds Try.pinned (OpenSpec.ofChange fnIsDigitsRefusesForeignByteWrong)

end Rows
end Go.Proofs.Qxb6001569a
