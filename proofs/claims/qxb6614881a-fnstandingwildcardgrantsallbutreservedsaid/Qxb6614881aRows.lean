/-
  No cell of these rows narrows 'for every input' (looked for: loops, veiled, ifaces, maps, wideKeys, modest, calm, conditions, laid).
  DERIVED. THE GIVEN ROWS OF THIS SEAT. 2 by the template 'for every input the law returns true; each argument reads behind the call as it read before'; 0 by the template 'total and deterministic' (their statements: Qxb6614881aTotals.lean).
  GIVEN WITH THE SEED: the statements are not yours to turn. If you find one false, say at which input.
  Laid BY PROGRAM, IN A SANDBOX (cutbox-rows.mjs): the forced cells as the released guide's own fill.sh prints them over the translation 60060741b3be03b1… (all of the seat's roots in one cut). By AI agents, Wed Nov 11 2026. No macro, syntax, notation, axiom, sorry.
-/
import Derived.Test.Qxb6614881aChecked
import GoSem.Claim
import GoSem.ClaimJoined
import GoSem.ClaimMapViews
import Derived.JoinedTies
import Derived.KernelRfl
namespace Go.Proofs.Qxb6614881a
/- THE CELL 'sum', in the pinned program and in every row, IS THE sha256 OF THE DUMP (.gsa) THAT Qxb6614881aProg.lean LOADS. Nothing in Lean hashes anything: it is a label: what it is worth is what the hold of that sum in a sandbox is worth. -/
noncomputable def Try.pinned : Pinned := { name := "qxb6614881a", sum := "60060741b3be03b1bc832b4ef71f1bf424e05c1397854b8af3053d9d3b55aaed", checked := Try.checked }
namespace Rows
def none {H : Type} : Left H := { results := [], args := [] }

/-- 'zzlaws_internal_realms_b1.FnStandingMayUpdateSplitsOverProperties': WHATEVER THE INPUT: true; the input reads as it did. -/
def fnStandingMayUpdateSplitsOverPropertiesSpec : ChangeSpec := { name := "fnStandingMayUpdateSplitsOverProperties", fn := fun _ => fun
  | [d1, d2, d3, d4, d5, d6, d7, d8, d9, d10, d11, d12] => { results := [.lit (.bool true)], args := [d1, d2, d3, d4, d5, d6, d7, d8, d9, d10, d11, d12] }
  | _ => none }
def fnStandingMayUpdateSplitsOverPropertiesRow : OpenClaim := { program := "qxb6614881a", sum := "60060741b3be03b1bc832b4ef71f1bf424e05c1397854b8af3053d9d3b55aaed", func := "example.com/holdfast/holdfast/zzlaws_internal_realms_b1.FnStandingMayUpdateSplitsOverProperties", spec := "fnStandingMayUpdateSplitsOverProperties", unfollowed := true, recurses := true, apart := false }
def FnStandingMayUpdateSplitsOverPropertiesSaid : Prop := fnStandingMayUpdateSplitsOverPropertiesRow.holds Try.pinned (OpenSpec.ofChange fnStandingMayUpdateSplitsOverPropertiesSpec)

/-- ITS FALSE NEIGHBOUR: 'it returns false'. Refute it at one input. -/
def fnStandingMayUpdateSplitsOverPropertiesWrong : ChangeSpec := { name := "fnStandingMayUpdateSplitsOverProperties", fn := fun _ => fun
  | [d1, d2, d3, d4, d5, d6, d7, d8, d9, d10, d11, d12] => { results := [.lit (.bool false)], args := [d1, d2, d3, d4, d5, d6, d7, d8, d9, d10, d11, d12] }
  | _ => none }
def FnStandingMayUpdateSplitsOverPropertiesWrongFalsely : Prop := fnStandingMayUpdateSplitsOverPropertiesRow.holds Try.pinned (OpenSpec.ofChange fnStandingMayUpdateSplitsOverPropertiesWrong)

/-- 'zzlaws_internal_realms_b1.FnStandingWildcardGrantsAllButReserved': WHATEVER THE INPUT: true; the input reads as it did. -/
def fnStandingWildcardGrantsAllButReservedSpec : ChangeSpec := { name := "fnStandingWildcardGrantsAllButReserved", fn := fun _ => fun
  | [d1, d2, d3, d4, d5, d6, d7, d8, d9, d10, d11] => { results := [.lit (.bool true)], args := [d1, d2, d3, d4, d5, d6, d7, d8, d9, d10, d11] }
  | _ => none }
def fnStandingWildcardGrantsAllButReservedRow : OpenClaim := { program := "qxb6614881a", sum := "60060741b3be03b1bc832b4ef71f1bf424e05c1397854b8af3053d9d3b55aaed", func := "example.com/holdfast/holdfast/zzlaws_internal_realms_b1.FnStandingWildcardGrantsAllButReserved", spec := "fnStandingWildcardGrantsAllButReserved", unfollowed := true, recurses := true, apart := false }
def FnStandingWildcardGrantsAllButReservedSaid : Prop := fnStandingWildcardGrantsAllButReservedRow.holds Try.pinned (OpenSpec.ofChange fnStandingWildcardGrantsAllButReservedSpec)

/-- ITS FALSE NEIGHBOUR: 'it returns false'. Refute it at one input. -/
def fnStandingWildcardGrantsAllButReservedWrong : ChangeSpec := { name := "fnStandingWildcardGrantsAllButReserved", fn := fun _ => fun
  | [d1, d2, d3, d4, d5, d6, d7, d8, d9, d10, d11] => { results := [.lit (.bool false)], args := [d1, d2, d3, d4, d5, d6, d7, d8, d9, d10, d11] }
  | _ => none }
def FnStandingWildcardGrantsAllButReservedWrongFalsely : Prop := fnStandingWildcardGrantsAllButReservedRow.holds Try.pinned (OpenSpec.ofChange fnStandingWildcardGrantsAllButReservedWrong)

end Rows
end Go.Proofs.Qxb6614881a
