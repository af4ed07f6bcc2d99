/-
  No cell of these rows narrows 'for every input' (looked for: loops, veiled, ifaces, maps, wideKeys, modest, calm, conditions, laid).
  DERIVED. THE GIVEN ROWS OF THIS SEAT. 5 by the template 'for every input the law returns true; each argument reads behind the call as it read before'; 0 by the template 'total and deterministic' (their statements: Qxb6602454aTotals.lean).
  GIVEN WITH THE SEED: the statements are not yours to turn. If you find one false, say at which input.
  Laid BY PROGRAM, IN A SANDBOX (cutbox-rows.mjs): the forced cells as the released guide's own fill.sh prints them over the translation 6afe85e29b5c8eef… (all of the seat's roots in one cut). By AI agents, Wed Nov 11 2026. No macro, syntax, notation, axiom, sorry.
-/
import Derived.Test.Qxb6602454aChecked
import GoSem.Claim
import GoSem.ClaimJoined
import GoSem.ClaimMapViews
import Derived.JoinedTies
import Derived.KernelRfl
namespace Go.Proofs.Qxb6602454a
/- THE CELL 'sum', in the pinned program and in every row, IS THE sha256 OF THE DUMP (.gsa) THAT Qxb6602454aProg.lean LOADS. Nothing in Lean hashes anything: it is a label: what it is worth is what the hold of that sum in a sandbox is worth. -/
noncomputable def Try.pinned : Pinned := { name := "qxb6602454a", sum := "6afe85e29b5c8eeffb94586b4eb1e40450397d55e24437148b0ffa8a47a783d8", checked := Try.checked }
namespace Rows
def none {H : Type} : Left H := { results := [], args := [] }

/-- 'zzlaws_internal_snapshot_b1.FnWalkBeforeMatchesComponentOrder': WHATEVER THE INPUT: true; the input reads as it did. -/
def fnWalkBeforeMatchesComponentOrderSpec : ChangeSpec := { name := "fnWalkBeforeMatchesComponentOrder", fn := fun _ => fun
  | [d1, d2] => { results := [.lit (.bool true)], args := [d1, d2] }
  | _ => none }
def fnWalkBeforeMatchesComponentOrderRow : OpenClaim := { program := "qxb6602454a", sum := "6afe85e29b5c8eeffb94586b4eb1e40450397d55e24437148b0ffa8a47a783d8", func := "example.com/holdfast/holdfast/zzlaws_internal_snapshot_b1.FnWalkBeforeMatchesComponentOrder", spec := "fnWalkBeforeMatchesComponentOrder", apart := false }
def FnWalkBeforeMatchesComponentOrderSaid : Prop := fnWalkBeforeMatchesComponentOrderRow.holds Try.pinned (OpenSpec.ofChange fnWalkBeforeMatchesComponentOrderSpec)

/-- ITS FALSE NEIGHBOUR: 'it returns false'. Refute it at one input. -/
def fnWalkBeforeMatchesComponentOrderWrong : ChangeSpec := { name := "fnWalkBeforeMatchesComponentOrder", fn := fun _ => fun
  | [d1, d2] => { results := [.lit (.bool false)], args := [d1, d2] }
  | _ => none }
def FnWalkBeforeMatchesComponentOrderWrongFalsely : Prop := fnWalkBeforeMatchesComponentOrderRow.holds Try.pinned (OpenSpec.ofChange fnWalkBeforeMatchesComponentOrderWrong)

/-- 'zzlaws_internal_snapshot_b1.FnWalkBeforeIsStrictTotalOrder': WHATEVER THE INPUT: true; the input reads as it did. -/
def fnWalkBeforeIsStrictTotalOrderSpec : ChangeSpec := { name := "fnWalkBeforeIsStrictTotalOrder", fn := fun _ => fun
  | [d1, d2, d3] => { results := [.lit (.bool true)], args := [d1, d2, d3] }
  | _ => none }
def fnWalkBeforeIsStrictTotalOrderRow : OpenClaim := { program := "qxb6602454a", sum := "6afe85e29b5c8eeffb94586b4eb1e40450397d55e24437148b0ffa8a47a783d8", func := "example.com/holdfast/holdfast/zzlaws_internal_snapshot_b1.FnWalkBeforeIsStrictTotalOrder", spec := "fnWalkBeforeIsStrictTotalOrder", apart := false }
def FnWalkBeforeIsStrictTotalOrderSaid : Prop := fnWalkBeforeIsStrictTotalOrderRow.holds Try.pinned (OpenSpec.ofChange fnWalkBeforeIsStrictTotalOrderSpec)

/-- ITS FALSE NEIGHBOUR: 'it returns false'. Refute it at one input. -/
def fnWalkBeforeIsStrictTotalOrderWrong : ChangeSpec := { name := "fnWalkBeforeIsStrictTotalOrder", fn := fun _ => fun
  | [d1, d2, d3] => { results := [.lit (.bool false)], args := [d1, d2, d3] }
  | _ => none }
def FnWalkBeforeIsStrictTotalOrderWrongFalsely : Prop := fnWalkBeforeIsStrictTotalOrderRow.holds Try.pinned (OpenSpec.ofChange fnWalkBeforeIsStrictTotalOrderWrong)

/-- 'zzlaws_internal_snapshot_b1.FnWalkBeforeKeepsSubtreeTogether': WHATEVER THE INPUT: true; the input reads as it did. -/
def fnWalkBeforeKeepsSubtreeTogetherSpec : ChangeSpec := { name := "fnWalkBeforeKeepsSubtreeTogether", fn := fun _ => fun
  | [d1, d2, d3] => { results := [.lit (.bool true)], args := [d1, d2, d3] }
  | _ => none }
def fnWalkBeforeKeepsSubtreeTogetherRow : OpenClaim := { program := "qxb6602454a", sum := "6afe85e29b5c8eeffb94586b4eb1e40450397d55e24437148b0ffa8a47a783d8", func := "example.com/holdfast/holdfast/zzlaws_internal_snapshot_b1.FnWalkBeforeKeepsSubtreeTogether", spec := "fnWalkBeforeKeepsSubtreeTogether", apart := false }
def FnWalkBeforeKeepsSubtreeTogetherSaid : Prop := fnWalkBeforeKeepsSubtreeTogetherRow.holds Try.pinned (OpenSpec.ofChange fnWalkBeforeKeepsSubtreeTogetherSpec)

/-- ITS FALSE NEIGHBOUR: 'it returns false'. Refute it at one input. -/
def fnWalkBeforeKeepsSubtreeTogetherWrong : ChangeSpec := { name := "fnWalkBeforeKeepsSubtreeTogether", fn := fun _ => fun
  | [d1, d2, d3] => { results := [.lit (.bool false)], args := [d1, d2, d3] }
  | _ => none }
def FnWalkBeforeKeepsSubtreeTogetherWrongFalsely : Prop := fnWalkBeforeKeepsSubtreeTogetherRow.holds Try.pinned (OpenSpec.ofChange fnWalkBeforeKeepsSubtreeTogetherWrong)

/-- 'zzlaws_internal_snapshot_b1.FnValidPathMatchesModel': WHATEVER THE INPUT: true; the input reads as it did. -/
def fnValidPathMatchesModelSpec : ChangeSpec := { name := "fnValidPathMatchesModel", fn := fun _ => fun
  | [d] => { results := [.lit (.bool true)], args := [d] }
  | _ => none }
def fnValidPathMatchesModelRow : OpenClaim := { program := "qxb6602454a", sum := "6afe85e29b5c8eeffb94586b4eb1e40450397d55e24437148b0ffa8a47a783d8", func := "example.com/holdfast/holdfast/zzlaws_internal_snapshot_b1.FnValidPathMatchesModel", spec := "fnValidPathMatchesModel", inPlace := ["internal/bytealg.IndexByteString", "internal/bytealg.IndexString"], named := ["internal/bytealg.MaxLen"], apart := false }
def FnValidPathMatchesModelSaid : Prop := fnValidPathMatchesModelRow.holds Try.pinned (OpenSpec.ofChange fnValidPathMatchesModelSpec)

/-- ITS FALSE NEIGHBOUR: 'it returns false'. Refute it at one input. -/
def fnValidPathMatchesModelWrong : ChangeSpec := { name := "fnValidPathMatchesModel", fn := fun _ => fun
  | [d] => { results := [.lit (.bool false)], args := [d] }
  | _ => none }
def FnValidPathMatchesModelWrongFalsely : Prop := fnValidPathMatchesModelRow.holds Try.pinned (OpenSpec.ofChange fnValidPathMatchesModelWrong)

/-- 'zzlaws_internal_snapshot_b1.FnValidPathJoin': WHATEVER THE INPUT: true; the input reads as it did. -/
def fnValidPathJoinSpec : ChangeSpec := { name := "fnValidPathJoin", fn := fun _ => fun
  | [d1, d2] => { results := [.lit (.bool true)], args := [d1, d2] }
  | _ => none }
def fnValidPathJoinRow : OpenClaim := { program := "qxb6602454a", sum := "6afe85e29b5c8eeffb94586b4eb1e40450397d55e24437148b0ffa8a47a783d8", func := "example.com/holdfast/holdfast/zzlaws_internal_snapshot_b1.FnValidPathJoin", spec := "fnValidPathJoin", inPlace := ["internal/bytealg.IndexByteString", "internal/bytealg.IndexString"], named := ["internal/bytealg.MaxLen"], apart := false }
def FnValidPathJoinSaid : Prop := fnValidPathJoinRow.holds Try.pinned (OpenSpec.ofChange fnValidPathJoinSpec)

/-- ITS FALSE NEIGHBOUR: 'it returns false'. Refute it at one input. -/
def fnValidPathJoinWrong : ChangeSpec := { name := "fnValidPathJoin", fn := fun _ => fun
  | [d1, d2] => { results := [.lit (.bool false)], args := [d1, d2] }
  | _ => none }
def FnValidPathJoinWrongFalsely : Prop := fnValidPathJoinRow.holds Try.pinned (OpenSpec.ofChange fnValidPathJoinWrong)

end Rows
end Go.Proofs.Qxb6602454a
