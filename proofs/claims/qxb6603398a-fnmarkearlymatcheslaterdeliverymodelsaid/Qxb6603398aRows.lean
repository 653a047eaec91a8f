/-
  No cell of these rows narrows 'for every input' (looked for: loops, veiled, ifaces, maps, wideKeys, modest, calm, conditions, laid).
  DERIVED. THE GIVEN ROWS OF THIS SEAT. 3 by the template 'for every input the law returns true; each argument reads behind the call as it read before'; 0 by the template 'total and deterministic' (their statements: Qxb6603398aTotals.lean).
  GIVEN WITH THE SEED: the statements are not yours to turn. If you find one false, say at which input.
  Laid BY PROGRAM, IN A SANDBOX (cutbox-rows.mjs): the forced cells as the released guide's own fill.sh prints them over the translation 74b6f10129d1d4b2… (all of the seat's roots in one cut). By AI agents, Wed Nov 11 2026. No macro, syntax, notation, axiom, sorry.
-/
import Derived.Test.Qxb6603398aChecked
import GoSem.Claim
import GoSem.ClaimJoined
import GoSem.ClaimMapViews
import Derived.JoinedTies
import Derived.KernelRfl
namespace Go.Proofs.Qxb6603398a
/- THE CELL 'sum', in the pinned program and in every row, IS THE sha256 OF THE DUMP (.gsa) THAT Qxb6603398aProg.lean LOADS. Nothing in Lean hashes anything: it is a label: what it is worth is what the hold of that sum in a sandbox is worth. -/
noncomputable def Try.pinned : Pinned := { name := "qxb6603398a", sum := "74b6f10129d1d4b2fd85b2c9981246585686d969e85dc9c52c3093b367d9142c", checked := Try.checked }
namespace Rows
def none {H : Type} : Left H := { results := [], args := [] }

/-- 'zzlaws_internal_verify_b1.FnNumberDenseFirstAppearance': WHATEVER THE INPUT: true; the input reads as it did. -/
def fnNumberDenseFirstAppearanceSpec : ChangeSpec := { name := "fnNumberDenseFirstAppearance", fn := fun _ => fun
  | [d] => { results := [.lit (.bool true)], args := [d] }
  | _ => none }
def fnNumberDenseFirstAppearanceRow : OpenClaim := { program := "qxb6603398a", sum := "74b6f10129d1d4b2fd85b2c9981246585686d969e85dc9c52c3093b367d9142c", func := "example.com/antecede/antecede/zzlaws_internal_verify_b1.FnNumberDenseFirstAppearance", spec := "fnNumberDenseFirstAppearance", apart := false }
def FnNumberDenseFirstAppearanceSaid : Prop := fnNumberDenseFirstAppearanceRow.holds Try.pinned (OpenSpec.ofChange fnNumberDenseFirstAppearanceSpec)

/-- ITS FALSE NEIGHBOUR: 'it returns false'. Refute it at one input. -/
def fnNumberDenseFirstAppearanceWrong : ChangeSpec := { name := "fnNumberDenseFirstAppearance", fn := fun _ => fun
  | [d] => { results := [.lit (.bool false)], args := [d] }
  | _ => none }
def FnNumberDenseFirstAppearanceWrongFalsely : Prop := fnNumberDenseFirstAppearanceRow.holds Try.pinned (OpenSpec.ofChange fnNumberDenseFirstAppearanceWrong)

/-- 'zzlaws_internal_verify_b1.FnAddComponentRowIsLeastUpperBound': WHATEVER THE INPUT: true; the input reads as it did. -/
def fnAddComponentRowIsLeastUpperBoundSpec : ChangeSpec := { name := "fnAddComponentRowIsLeastUpperBound", fn := fun _ => fun
  | [d1, d2, d3, d4, d5, d6, d7, d8, d9, d10, d11] => { results := [.lit (.bool true)], args := [d1, d2, d3, d4, d5, d6, d7, d8, d9, d10, d11] }
  | _ => none }
def fnAddComponentRowIsLeastUpperBoundRow : OpenClaim := { program := "qxb6603398a", sum := "74b6f10129d1d4b2fd85b2c9981246585686d969e85dc9c52c3093b367d9142c", func := "example.com/antecede/antecede/zzlaws_internal_verify_b1.FnAddComponentRowIsLeastUpperBound", spec := "fnAddComponentRowIsLeastUpperBound", apart := false }
def FnAddComponentRowIsLeastUpperBoundSaid : Prop := fnAddComponentRowIsLeastUpperBoundRow.holds Try.pinned (OpenSpec.ofChange fnAddComponentRowIsLeastUpperBoundSpec)

/-- ITS FALSE NEIGHBOUR: 'it returns false'. Refute it at one input. -/
def fnAddComponentRowIsLeastUpperBoundWrong : ChangeSpec := { name := "fnAddComponentRowIsLeastUpperBound", fn := fun _ => fun
  | [d1, d2, d3, d4, d5, d6, d7, d8, d9, d10, d11] => { results := [.lit (.bool false)], args := [d1, d2, d3, d4, d5, d6, d7, d8, d9, d10, d11] }
  | _ => none }
def FnAddComponentRowIsLeastUpperBoundWrongFalsely : Prop := fnAddComponentRowIsLeastUpperBoundRow.holds Try.pinned (OpenSpec.ofChange fnAddComponentRowIsLeastUpperBoundWrong)

/-- 'zzlaws_internal_verify_b1.FnMarkEarlyMatchesLaterDeliveryModel': WHATEVER THE INPUT: true; the input reads as it did. -/
def fnMarkEarlyMatchesLaterDeliveryModelSpec : ChangeSpec := { name := "fnMarkEarlyMatchesLaterDeliveryModel", fn := fun _ => fun
  | [d1, d2, d3, d4, d5, d6, d7, d8, d9, d10, d11, d12] => { results := [.lit (.bool true)], args := [d1, d2, d3, d4, d5, d6, d7, d8, d9, d10, d11, d12] }
  | _ => none }
def fnMarkEarlyMatchesLaterDeliveryModelRow : OpenClaim := { program := "qxb6603398a", sum := "74b6f10129d1d4b2fd85b2c9981246585686d969e85dc9c52c3093b367d9142c", func := "example.com/antecede/antecede/zzlaws_internal_verify_b1.FnMarkEarlyMatchesLaterDeliveryModel", spec := "fnMarkEarlyMatchesLaterDeliveryModel", apart := false }
def FnMarkEarlyMatchesLaterDeliveryModelSaid : Prop := fnMarkEarlyMatchesLaterDeliveryModelRow.holds Try.pinned (OpenSpec.ofChange fnMarkEarlyMatchesLaterDeliveryModelSpec)

/-- ITS FALSE NEIGHBOUR: 'it returns false'. Refute it at one input. -/
def fnMarkEarlyMatchesLaterDeliveryModelWrong : ChangeSpec := { name := "fnMarkEarlyMatchesLaterDeliveryModel", fn := fun _ => fun
  | [d1, d2, d3, d4, d5, d6, d7, d8, d9, d10, d11, d12] => { results := [.lit (.bool false)], args := [d1, d2, d3, d4, d5, d6, d7, d8, d9, d10, d11, d12] }
  | _ => none }
def FnMarkEarlyMatchesLaterDeliveryModelWrongFalsely : Prop := fnMarkEarlyMatchesLaterDeliveryModelRow.holds Try.pinned (OpenSpec.ofChange fnMarkEarlyMatchesLaterDeliveryModelWrong)

end Rows
end Go.Proofs.Qxb6603398a
