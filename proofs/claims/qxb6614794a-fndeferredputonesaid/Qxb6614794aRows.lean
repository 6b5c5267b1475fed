/-
  No cell of these rows narrows 'for every input' (looked for: loops, veiled, ifaces, maps, wideKeys, modest, calm, conditions, laid).
  DERIVED. THE GIVEN ROWS OF THIS SEAT. 2 by the template 'for every input the law returns true; each argument reads behind the call as it read before'; 0 by the template 'total and deterministic' (their statements: Qxb6614794aTotals.lean).
  GIVEN WITH THE SEED: the statements are not yours to turn. If you find one false, say at which input.
  Laid BY PROGRAM, IN A SANDBOX (cutbox-rows.mjs): the forced cells as the released guide's own fill.sh prints them over the translation 2d78c58f407d069d… (all of the seat's roots in one cut). By AI agents, Wed Nov 11 2026. No macro, syntax, notation, axiom, sorry.
-/
import Derived.Test.Qxb6614794aChecked
import GoSem.Claim
import GoSem.ClaimJoined
import GoSem.ClaimMapViews
import Derived.JoinedTies
import Derived.KernelRfl
namespace Go.Proofs.Qxb6614794a
/- THE CELL 'sum', in the pinned program and in every row, IS THE sha256 OF THE DUMP (.gsa) THAT Qxb6614794aProg.lean LOADS. Nothing in Lean hashes anything: it is a label: what it is worth is what the hold of that sum in a sandbox is worth. -/
noncomputable def Try.pinned : Pinned := { name := "qxb6614794a", sum := "2d78c58f407d069db02cb3f5b97f8f6d77144a4bf4a05647b4b79d1e428d043d", checked := Try.checked }
namespace Rows
def none {H : Type} : Left H := { results := [], args := [] }

/-- 'zzlaws_root_b1.FnDeferredJoin': WHATEVER THE INPUT: true; the input reads as it did. -/
def fnDeferredJoinSpec : ChangeSpec := { name := "fnDeferredJoin", fn := fun _ => fun
  | [d1, d2] => { results := [.lit (.bool true)], args := [d1, d2] }
  | _ => none }
def fnDeferredJoinRow : OpenClaim := { program := "qxb6614794a", sum := "2d78c58f407d069db02cb3f5b97f8f6d77144a4bf4a05647b4b79d1e428d043d", func := "example.com/zhaomu/zhaomu/zzlaws_root_b1.FnDeferredJoin", spec := "fnDeferredJoin", apart := false }
def FnDeferredJoinSaid : Prop := fnDeferredJoinRow.holds Try.pinned (OpenSpec.ofChange fnDeferredJoinSpec)

/-- ITS FALSE NEIGHBOUR: 'it returns false'. Refute it at one input. -/
def fnDeferredJoinWrong : ChangeSpec := { name := "fnDeferredJoin", fn := fun _ => fun
  | [d1, d2] => { results := [.lit (.bool false)], args := [d1, d2] }
  | _ => none }
def FnDeferredJoinWrongFalsely : Prop := fnDeferredJoinRow.holds Try.pinned (OpenSpec.ofChange fnDeferredJoinWrong)

/-- 'zzlaws_root_b1.FnDeferredPutOne': WHATEVER THE INPUT: true; the input reads as it did. -/
def fnDeferredPutOneSpec : ChangeSpec := { name := "fnDeferredPutOne", fn := fun _ => fun
  | [d1, d2, d3] => { results := [.lit (.bool true)], args := [d1, d2, d3] }
  | _ => none }
def fnDeferredPutOneRow : OpenClaim := { program := "qxb6614794a", sum := "2d78c58f407d069db02cb3f5b97f8f6d77144a4bf4a05647b4b79d1e428d043d", func := "example.com/zhaomu/zhaomu/zzlaws_root_b1.FnDeferredPutOne", spec := "fnDeferredPutOne", apart := false }
def FnDeferredPutOneSaid : Prop := fnDeferredPutOneRow.holds Try.pinned (OpenSpec.ofChange fnDeferredPutOneSpec)

/-- ITS FALSE NEIGHBOUR: 'it returns false'. Refute it at one input. -/
def fnDeferredPutOneWrong : ChangeSpec := { name := "fnDeferredPutOne", fn := fun _ => fun
  | [d1, d2, d3] => { results := [.lit (.bool false)], args := [d1, d2, d3] }
  | _ => none }
def FnDeferredPutOneWrongFalsely : Prop := fnDeferredPutOneRow.holds Try.pinned (OpenSpec.ofChange fnDeferredPutOneWrong)

end Rows
end Go.Proofs.Qxb6614794a
