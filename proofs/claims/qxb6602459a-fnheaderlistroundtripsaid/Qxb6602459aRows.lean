/-
  No cell of these rows narrows 'for every input' (looked for: loops, veiled, ifaces, maps, wideKeys, modest, calm, conditions, laid).
  DERIVED. THE GIVEN ROWS OF THIS SEAT. 4 by the template 'for every input the law returns true; each argument reads behind the call as it read before'; 0 by the template 'total and deterministic' (their statements: Qxb6602459aTotals.lean).
  GIVEN WITH THE SEED: the statements are not yours to turn. If you find one false, say at which input.
  Laid BY PROGRAM, IN A SANDBOX (cutbox-rows.mjs): the forced cells as the released guide's own fill.sh prints them over the translation 604c946bd00d6e73… (all of the seat's roots in one cut). By AI agents, Wed Nov 11 2026. No macro, syntax, notation, axiom, sorry.
-/
import Derived.Test.Qxb6602459aChecked
import GoSem.Claim
import GoSem.ClaimJoined
import GoSem.ClaimMapViews
import Derived.JoinedTies
import Derived.KernelRfl
namespace Go.Proofs.Qxb6602459a
/- THE CELL 'sum', in the pinned program and in every row, IS THE sha256 OF THE DUMP (.gsa) THAT Qxb6602459aProg.lean LOADS. Nothing in Lean hashes anything: it is a label: what it is worth is what the hold of that sum in a sandbox is worth. -/
noncomputable def Try.pinned : Pinned := { name := "qxb6602459a", sum := "604c946bd00d6e73a126fc8c3b7b5705e6ae9a755bf591a4bcb9d50089ebd804", checked := Try.checked }
namespace Rows
def none {H : Type} : Left H := { results := [], args := [] }

/-- 'zzlaws_csvfile_b1.FnHeaderRowsSpec': WHATEVER THE INPUT: true; the input reads as it did. -/
def fnHeaderRowsSpecSpec : ChangeSpec := { name := "fnHeaderRowsSpec", fn := fun _ => fun
  | [d1, d2] => { results := [.lit (.bool true)], args := [d1, d2] }
  | _ => none }
def fnHeaderRowsSpecRow : OpenClaim := { program := "qxb6602459a", sum := "604c946bd00d6e73a126fc8c3b7b5705e6ae9a755bf591a4bcb9d50089ebd804", func := "example.com/tuoguan/tuoguan/zzlaws_csvfile_b1.FnHeaderRowsSpec", spec := "fnHeaderRowsSpec", apart := false }
def FnHeaderRowsSpecSaid : Prop := fnHeaderRowsSpecRow.holds Try.pinned (OpenSpec.ofChange fnHeaderRowsSpecSpec)

/-- ITS FALSE NEIGHBOUR: 'it returns false'. Refute it at one input. -/
def fnHeaderRowsSpecWrong : ChangeSpec := { name := "fnHeaderRowsSpec", fn := fun _ => fun
  | [d1, d2] => { results := [.lit (.bool false)], args := [d1, d2] }
  | _ => none }
def FnHeaderRowsSpecWrongFalsely : Prop := fnHeaderRowsSpecRow.holds Try.pinned (OpenSpec.ofChange fnHeaderRowsSpecWrong)

/-- 'zzlaws_csvfile_b1.FnHeaderRowsFresh': WHATEVER THE INPUT: true; the input reads as it did. -/
def fnHeaderRowsFreshSpec : ChangeSpec := { name := "fnHeaderRowsFresh", fn := fun _ => fun
  | [d1, d2] => { results := [.lit (.bool true)], args := [d1, d2] }
  | _ => none }
def fnHeaderRowsFreshRow : OpenClaim := { program := "qxb6602459a", sum := "604c946bd00d6e73a126fc8c3b7b5705e6ae9a755bf591a4bcb9d50089ebd804", func := "example.com/tuoguan/tuoguan/zzlaws_csvfile_b1.FnHeaderRowsFresh", spec := "fnHeaderRowsFresh", apart := false }
def FnHeaderRowsFreshSaid : Prop := fnHeaderRowsFreshRow.holds Try.pinned (OpenSpec.ofChange fnHeaderRowsFreshSpec)

/-- ITS FALSE NEIGHBOUR: 'it returns false'. Refute it at one input. -/
def fnHeaderRowsFreshWrong : ChangeSpec := { name := "fnHeaderRowsFresh", fn := fun _ => fun
  | [d1, d2] => { results := [.lit (.bool false)], args := [d1, d2] }
  | _ => none }
def FnHeaderRowsFreshWrongFalsely : Prop := fnHeaderRowsFreshRow.holds Try.pinned (OpenSpec.ofChange fnHeaderRowsFreshWrong)

/-- 'zzlaws_csvfile_b1.FnHeaderListRoundTrip': WHATEVER THE INPUT: true; the input reads as it did. -/
def fnHeaderListRoundTripSpec : ChangeSpec := { name := "fnHeaderListRoundTrip", fn := fun _ => fun
  | [d] => { results := [.lit (.bool true)], args := [d] }
  | _ => none }
def fnHeaderListRoundTripRow : OpenClaim := { program := "qxb6602459a", sum := "604c946bd00d6e73a126fc8c3b7b5705e6ae9a755bf591a4bcb9d50089ebd804", func := "example.com/tuoguan/tuoguan/zzlaws_csvfile_b1.FnHeaderListRoundTrip", spec := "fnHeaderListRoundTrip", inPlace := ["internal/abi.NoEscape", "internal/bytealg.MakeNoZero"], apart := false }
def FnHeaderListRoundTripSaid : Prop := fnHeaderListRoundTripRow.holds Try.pinned (OpenSpec.ofChange fnHeaderListRoundTripSpec)

/-- ITS FALSE NEIGHBOUR: 'it returns false'. Refute it at one input. -/
def fnHeaderListRoundTripWrong : ChangeSpec := { name := "fnHeaderListRoundTrip", fn := fun _ => fun
  | [d] => { results := [.lit (.bool false)], args := [d] }
  | _ => none }
def FnHeaderListRoundTripWrongFalsely : Prop := fnHeaderListRoundTripRow.holds Try.pinned (OpenSpec.ofChange fnHeaderListRoundTripWrong)

/-- 'zzlaws_csvfile_b1.FnHeaderListConcat': WHATEVER THE INPUT: true; the input reads as it did. -/
def fnHeaderListConcatSpec : ChangeSpec := { name := "fnHeaderListConcat", fn := fun _ => fun
  | [d1, d2] => { results := [.lit (.bool true)], args := [d1, d2] }
  | _ => none }
def fnHeaderListConcatRow : OpenClaim := { program := "qxb6602459a", sum := "604c946bd00d6e73a126fc8c3b7b5705e6ae9a755bf591a4bcb9d50089ebd804", func := "example.com/tuoguan/tuoguan/zzlaws_csvfile_b1.FnHeaderListConcat", spec := "fnHeaderListConcat", inPlace := ["internal/abi.NoEscape", "internal/bytealg.MakeNoZero"], apart := false }
def FnHeaderListConcatSaid : Prop := fnHeaderListConcatRow.holds Try.pinned (OpenSpec.ofChange fnHeaderListConcatSpec)

/-- ITS FALSE NEIGHBOUR: 'it returns false'. Refute it at one input. -/
def fnHeaderListConcatWrong : ChangeSpec := { name := "fnHeaderListConcat", fn := fun _ => fun
  | [d1, d2] => { results := [.lit (.bool false)], args := [d1, d2] }
  | _ => none }
def FnHeaderListConcatWrongFalsely : Prop := fnHeaderListConcatRow.holds Try.pinned (OpenSpec.ofChange fnHeaderListConcatWrong)

end Rows
end Go.Proofs.Qxb6602459a
