/-
  No cell of these rows narrows 'for every input' (looked for: loops, veiled, ifaces, maps, wideKeys, modest, calm, conditions, laid).
  DERIVED. THE GIVEN ROWS OF THIS SEAT. 3 by the template 'for every input the law returns true; each argument reads behind the call as it read before'; 0 by the template 'total and deterministic' (their statements: Qxb6601670aTotals.lean).
  GIVEN WITH THE SEED: the statements are not yours to turn. If you find one false, say at which input.
  Laid BY PROGRAM, IN A SANDBOX (cutbox-rows.mjs): the forced cells as the released guide's own fill.sh prints them over the translation 48850d17903665ad… (all of the seat's roots in one cut). By AI agents, Wed Nov 11 2026. No macro, syntax, notation, axiom, sorry.
-/
import Derived.Test.Qxb6601670aChecked
import GoSem.Claim
import GoSem.ClaimJoined
import GoSem.ClaimMapViews
import Derived.JoinedTies
import Derived.KernelRfl
namespace Go.Proofs.Qxb6601670a
/- THE CELL 'sum', in the pinned program and in every row, IS THE sha256 OF THE DUMP (.gsa) THAT Qxb6601670aProg.lean LOADS. Nothing in Lean hashes anything: it is a label: what it is worth is what the hold of that sum in a sandbox is worth. -/
noncomputable def Try.pinned : Pinned := { name := "qxb6601670a", sum := "48850d17903665adaf05f200f2dee4d648c504d28585eff3dbff10175157a6d5", checked := Try.checked }
namespace Rows
def none {H : Type} : Left H := { results := [], args := [] }

/-- 'zzlaws_internal_pc_b1.FnSplitAtMatchesGroupingModel': WHATEVER THE INPUT: true; the input reads as it did. -/
def fnSplitAtMatchesGroupingModelSpec : ChangeSpec := { name := "fnSplitAtMatchesGroupingModel", fn := fun _ => fun
  | [d1, d2, d3] => { results := [.lit (.bool true)], args := [d1, d2, d3] }
  | _ => none }
def fnSplitAtMatchesGroupingModelRow : OpenClaim := { program := "qxb6601670a", sum := "48850d17903665adaf05f200f2dee4d648c504d28585eff3dbff10175157a6d5", func := "example.com/ratify/ratify/zzlaws_internal_pc_b1.FnSplitAtMatchesGroupingModel", spec := "fnSplitAtMatchesGroupingModel", apart := false }
def FnSplitAtMatchesGroupingModelSaid : Prop := fnSplitAtMatchesGroupingModelRow.holds Try.pinned (OpenSpec.ofChange fnSplitAtMatchesGroupingModelSpec)

/-- ITS FALSE NEIGHBOUR: 'it returns false'. Refute it at one input. -/
def fnSplitAtMatchesGroupingModelWrong : ChangeSpec := { name := "fnSplitAtMatchesGroupingModel", fn := fun _ => fun
  | [d1, d2, d3] => { results := [.lit (.bool false)], args := [d1, d2, d3] }
  | _ => none }
def FnSplitAtMatchesGroupingModelWrongFalsely : Prop := fnSplitAtMatchesGroupingModelRow.holds Try.pinned (OpenSpec.ofChange fnSplitAtMatchesGroupingModelWrong)

/-- 'zzlaws_internal_pc_b1.FnSplitAtThresholdFilters': WHATEVER THE INPUT: true; the input reads as it did. -/
def fnSplitAtThresholdFiltersSpec : ChangeSpec := { name := "fnSplitAtThresholdFilters", fn := fun _ => fun
  | [d1, d2, d3] => { results := [.lit (.bool true)], args := [d1, d2, d3] }
  | _ => none }
def fnSplitAtThresholdFiltersRow : OpenClaim := { program := "qxb6601670a", sum := "48850d17903665adaf05f200f2dee4d648c504d28585eff3dbff10175157a6d5", func := "example.com/ratify/ratify/zzlaws_internal_pc_b1.FnSplitAtThresholdFilters", spec := "fnSplitAtThresholdFilters", apart := false }
def FnSplitAtThresholdFiltersSaid : Prop := fnSplitAtThresholdFiltersRow.holds Try.pinned (OpenSpec.ofChange fnSplitAtThresholdFiltersSpec)

/-- ITS FALSE NEIGHBOUR: 'it returns false'. Refute it at one input. -/
def fnSplitAtThresholdFiltersWrong : ChangeSpec := { name := "fnSplitAtThresholdFilters", fn := fun _ => fun
  | [d1, d2, d3] => { results := [.lit (.bool false)], args := [d1, d2, d3] }
  | _ => none }
def FnSplitAtThresholdFiltersWrongFalsely : Prop := fnSplitAtThresholdFiltersRow.holds Try.pinned (OpenSpec.ofChange fnSplitAtThresholdFiltersWrong)

/-- 'zzlaws_internal_pc_b1.FnSplitAtKeptGroupIsFixed': WHATEVER THE INPUT: true; the input reads as it did. -/
def fnSplitAtKeptGroupIsFixedSpec : ChangeSpec := { name := "fnSplitAtKeptGroupIsFixed", fn := fun _ => fun
  | [d1, d2, d3] => { results := [.lit (.bool true)], args := [d1, d2, d3] }
  | _ => none }
def fnSplitAtKeptGroupIsFixedRow : OpenClaim := { program := "qxb6601670a", sum := "48850d17903665adaf05f200f2dee4d648c504d28585eff3dbff10175157a6d5", func := "example.com/ratify/ratify/zzlaws_internal_pc_b1.FnSplitAtKeptGroupIsFixed", spec := "fnSplitAtKeptGroupIsFixed", apart := false }
def FnSplitAtKeptGroupIsFixedSaid : Prop := fnSplitAtKeptGroupIsFixedRow.holds Try.pinned (OpenSpec.ofChange fnSplitAtKeptGroupIsFixedSpec)

/-- ITS FALSE NEIGHBOUR: 'it returns false'. Refute it at one input. -/
def fnSplitAtKeptGroupIsFixedWrong : ChangeSpec := { name := "fnSplitAtKeptGroupIsFixed", fn := fun _ => fun
  | [d1, d2, d3] => { results := [.lit (.bool false)], args := [d1, d2, d3] }
  | _ => none }
def FnSplitAtKeptGroupIsFixedWrongFalsely : Prop := fnSplitAtKeptGroupIsFixedRow.holds Try.pinned (OpenSpec.ofChange fnSplitAtKeptGroupIsFixedWrong)

end Rows
end Go.Proofs.Qxb6601670a
