/-
  No cell of these rows narrows 'for every input' (looked for: loops, veiled, ifaces, maps, wideKeys, modest, calm, conditions, laid).
  DERIVED. THE GIVEN ROWS OF THIS SEAT. 7 by the template 'for every input the law returns true; each argument reads behind the call as it read before'; 0 by the template 'total and deterministic' (their statements: Qxb6614903aTotals.lean).
  GIVEN WITH THE SEED: the statements are not yours to turn. If you find one false, say at which input.
  Laid BY PROGRAM, IN A SANDBOX (cutbox-rows.mjs): the forced cells as the released guide's own fill.sh prints them over the translation eb0e7b3363daf13c… (all of the seat's roots in one cut). By AI agents, Wed Nov 11 2026. No macro, syntax, notation, axiom, sorry.
-/
import Derived.Test.Qxb6614903aChecked
import GoSem.Claim
import GoSem.ClaimJoined
import GoSem.ClaimMapViews
import Derived.JoinedTies
import Derived.KernelRfl
namespace Go.Proofs.Qxb6614903a
/- THE CELL 'sum', in the pinned program and in every row, IS THE sha256 OF THE DUMP (.gsa) THAT Qxb6614903aProg.lean LOADS. Nothing in Lean hashes anything: it is a label: what it is worth is what the hold of that sum in a sandbox is worth. -/
noncomputable def Try.pinned : Pinned := { name := "qxb6614903a", sum := "eb0e7b3363daf13c905f91698ad41ed81a89f3162a47b2c955d0b93f2f050cdc", checked := Try.checked }
namespace Rows
def none {H : Type} : Left H := { results := [], args := [] }

/-- 'zzlaws_internal_store_b1.FnListFileCutAnywhere': WHATEVER THE INPUT: true; the input reads as it did. -/
def fnListFileCutAnywhereSpec : ChangeSpec := { name := "fnListFileCutAnywhere", fn := fun _ => fun
  | [d1, d2, d3] => { results := [.lit (.bool true)], args := [d1, d2, d3] }
  | _ => none }
def fnListFileCutAnywhereRow : OpenClaim := { program := "qxb6614903a", sum := "eb0e7b3363daf13c905f91698ad41ed81a89f3162a47b2c955d0b93f2f050cdc", func := "example.com/batond/batond/zzlaws_internal_store_b1.FnListFileCutAnywhere", spec := "fnListFileCutAnywhere", apart := false }
def FnListFileCutAnywhereSaid : Prop := fnListFileCutAnywhereRow.holds Try.pinned (OpenSpec.ofChange fnListFileCutAnywhereSpec)

/-- ITS FALSE NEIGHBOUR: 'it returns false'. Refute it at one input. -/
def fnListFileCutAnywhereWrong : ChangeSpec := { name := "fnListFileCutAnywhere", fn := fun _ => fun
  | [d1, d2, d3] => { results := [.lit (.bool false)], args := [d1, d2, d3] }
  | _ => none }
def FnListFileCutAnywhereWrongFalsely : Prop := fnListFileCutAnywhereRow.holds Try.pinned (OpenSpec.ofChange fnListFileCutAnywhereWrong)

/-- 'zzlaws_internal_store_b1.FnListFileInsertPart': WHATEVER THE INPUT: true; the input reads as it did. -/
def fnListFileInsertPartSpec : ChangeSpec := { name := "fnListFileInsertPart", fn := fun _ => fun
  | [d1, d2, d3, d4] => { results := [.lit (.bool true)], args := [d1, d2, d3, d4] }
  | _ => none }
def fnListFileInsertPartRow : OpenClaim := { program := "qxb6614903a", sum := "eb0e7b3363daf13c905f91698ad41ed81a89f3162a47b2c955d0b93f2f050cdc", func := "example.com/batond/batond/zzlaws_internal_store_b1.FnListFileInsertPart", spec := "fnListFileInsertPart", apart := false }
def FnListFileInsertPartSaid : Prop := fnListFileInsertPartRow.holds Try.pinned (OpenSpec.ofChange fnListFileInsertPartSpec)

/-- ITS FALSE NEIGHBOUR: 'it returns false'. Refute it at one input. -/
def fnListFileInsertPartWrong : ChangeSpec := { name := "fnListFileInsertPart", fn := fun _ => fun
  | [d1, d2, d3, d4] => { results := [.lit (.bool false)], args := [d1, d2, d3, d4] }
  | _ => none }
def FnListFileInsertPartWrongFalsely : Prop := fnListFileInsertPartRow.holds Try.pinned (OpenSpec.ofChange fnListFileInsertPartWrong)

/-- 'zzlaws_internal_store_b1.FnPhaseOfSplitAnywhere': WHATEVER THE INPUT: true; the input reads as it did. -/
def fnPhaseOfSplitAnywhereSpec : ChangeSpec := { name := "fnPhaseOfSplitAnywhere", fn := fun _ => fun
  | [d1, d2, d3] => { results := [.lit (.bool true)], args := [d1, d2, d3] }
  | _ => none }
def fnPhaseOfSplitAnywhereRow : OpenClaim := { program := "qxb6614903a", sum := "eb0e7b3363daf13c905f91698ad41ed81a89f3162a47b2c955d0b93f2f050cdc", func := "example.com/batond/batond/zzlaws_internal_store_b1.FnPhaseOfSplitAnywhere", spec := "fnPhaseOfSplitAnywhere", unfollowed := true, recurses := true, apart := false }
def FnPhaseOfSplitAnywhereSaid : Prop := fnPhaseOfSplitAnywhereRow.holds Try.pinned (OpenSpec.ofChange fnPhaseOfSplitAnywhereSpec)

/-- ITS FALSE NEIGHBOUR: 'it returns false'. Refute it at one input. -/
def fnPhaseOfSplitAnywhereWrong : ChangeSpec := { name := "fnPhaseOfSplitAnywhere", fn := fun _ => fun
  | [d1, d2, d3] => { results := [.lit (.bool false)], args := [d1, d2, d3] }
  | _ => none }
def FnPhaseOfSplitAnywhereWrongFalsely : Prop := fnPhaseOfSplitAnywhereRow.holds Try.pinned (OpenSpec.ofChange fnPhaseOfSplitAnywhereWrong)

/-- 'zzlaws_internal_store_b1.FnPhaseOfInsertPhase': WHATEVER THE INPUT: true; the input reads as it did. -/
def fnPhaseOfInsertPhaseSpec : ChangeSpec := { name := "fnPhaseOfInsertPhase", fn := fun _ => fun
  | [d1, d2, d3, d4] => { results := [.lit (.bool true)], args := [d1, d2, d3, d4] }
  | _ => none }
def fnPhaseOfInsertPhaseRow : OpenClaim := { program := "qxb6614903a", sum := "eb0e7b3363daf13c905f91698ad41ed81a89f3162a47b2c955d0b93f2f050cdc", func := "example.com/batond/batond/zzlaws_internal_store_b1.FnPhaseOfInsertPhase", spec := "fnPhaseOfInsertPhase", unfollowed := true, recurses := true, apart := false }
def FnPhaseOfInsertPhaseSaid : Prop := fnPhaseOfInsertPhaseRow.holds Try.pinned (OpenSpec.ofChange fnPhaseOfInsertPhaseSpec)

/-- ITS FALSE NEIGHBOUR: 'it returns false'. Refute it at one input. -/
def fnPhaseOfInsertPhaseWrong : ChangeSpec := { name := "fnPhaseOfInsertPhase", fn := fun _ => fun
  | [d1, d2, d3, d4] => { results := [.lit (.bool false)], args := [d1, d2, d3, d4] }
  | _ => none }
def FnPhaseOfInsertPhaseWrongFalsely : Prop := fnPhaseOfInsertPhaseRow.holds Try.pinned (OpenSpec.ofChange fnPhaseOfInsertPhaseWrong)

/-- 'zzlaws_internal_store_b1.FnInFlightSplitAnywhere': WHATEVER THE INPUT: true; the input reads as it did. -/
def fnInFlightSplitAnywhereSpec : ChangeSpec := { name := "fnInFlightSplitAnywhere", fn := fun _ => fun
  | [d1, d2] => { results := [.lit (.bool true)], args := [d1, d2] }
  | _ => none }
def fnInFlightSplitAnywhereRow : OpenClaim := { program := "qxb6614903a", sum := "eb0e7b3363daf13c905f91698ad41ed81a89f3162a47b2c955d0b93f2f050cdc", func := "example.com/batond/batond/zzlaws_internal_store_b1.FnInFlightSplitAnywhere", spec := "fnInFlightSplitAnywhere", unfollowed := true, recurses := true, apart := false }
def FnInFlightSplitAnywhereSaid : Prop := fnInFlightSplitAnywhereRow.holds Try.pinned (OpenSpec.ofChange fnInFlightSplitAnywhereSpec)

/-- ITS FALSE NEIGHBOUR: 'it returns false'. Refute it at one input. -/
def fnInFlightSplitAnywhereWrong : ChangeSpec := { name := "fnInFlightSplitAnywhere", fn := fun _ => fun
  | [d1, d2] => { results := [.lit (.bool false)], args := [d1, d2] }
  | _ => none }
def FnInFlightSplitAnywhereWrongFalsely : Prop := fnInFlightSplitAnywhereRow.holds Try.pinned (OpenSpec.ofChange fnInFlightSplitAnywhereWrong)

/-- 'zzlaws_internal_store_b1.FnInFlightInsertEntry': WHATEVER THE INPUT: true; the input reads as it did. -/
def fnInFlightInsertEntrySpec : ChangeSpec := { name := "fnInFlightInsertEntry", fn := fun _ => fun
  | [d1, d2, d3] => { results := [.lit (.bool true)], args := [d1, d2, d3] }
  | _ => none }
def fnInFlightInsertEntryRow : OpenClaim := { program := "qxb6614903a", sum := "eb0e7b3363daf13c905f91698ad41ed81a89f3162a47b2c955d0b93f2f050cdc", func := "example.com/batond/batond/zzlaws_internal_store_b1.FnInFlightInsertEntry", spec := "fnInFlightInsertEntry", unfollowed := true, recurses := true, apart := false }
def FnInFlightInsertEntrySaid : Prop := fnInFlightInsertEntryRow.holds Try.pinned (OpenSpec.ofChange fnInFlightInsertEntrySpec)

/-- ITS FALSE NEIGHBOUR: 'it returns false'. Refute it at one input. -/
def fnInFlightInsertEntryWrong : ChangeSpec := { name := "fnInFlightInsertEntry", fn := fun _ => fun
  | [d1, d2, d3] => { results := [.lit (.bool false)], args := [d1, d2, d3] }
  | _ => none }
def FnInFlightInsertEntryWrongFalsely : Prop := fnInFlightInsertEntryRow.holds Try.pinned (OpenSpec.ofChange fnInFlightInsertEntryWrong)

/-- 'zzlaws_internal_store_b1.FnTaskResultCloneStandsApart': WHATEVER THE INPUT: true; the input reads as it did. -/
def fnTaskResultCloneStandsApartSpec : ChangeSpec := { name := "fnTaskResultCloneStandsApart", fn := fun _ => fun
  | [d] => { results := [.lit (.bool true)], args := [d] }
  | _ => none }
def fnTaskResultCloneStandsApartRow : OpenClaim := { program := "qxb6614903a", sum := "eb0e7b3363daf13c905f91698ad41ed81a89f3162a47b2c955d0b93f2f050cdc", func := "example.com/batond/batond/zzlaws_internal_store_b1.FnTaskResultCloneStandsApart", spec := "fnTaskResultCloneStandsApart", apart := false }
def FnTaskResultCloneStandsApartSaid : Prop := fnTaskResultCloneStandsApartRow.holds Try.pinned (OpenSpec.ofChange fnTaskResultCloneStandsApartSpec)

/-- ITS FALSE NEIGHBOUR: 'it returns false'. Refute it at one input. -/
def fnTaskResultCloneStandsApartWrong : ChangeSpec := { name := "fnTaskResultCloneStandsApart", fn := fun _ => fun
  | [d] => { results := [.lit (.bool false)], args := [d] }
  | _ => none }
def FnTaskResultCloneStandsApartWrongFalsely : Prop := fnTaskResultCloneStandsApartRow.holds Try.pinned (OpenSpec.ofChange fnTaskResultCloneStandsApartWrong)

end Rows
end Go.Proofs.Qxb6614903a
