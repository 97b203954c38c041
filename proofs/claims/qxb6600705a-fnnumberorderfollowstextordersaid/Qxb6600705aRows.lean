/-
  No cell of these rows narrows 'for every input' (looked for: loops, veiled, ifaces, maps, wideKeys, modest, calm, conditions, laid).
  DERIVED. THE GIVEN ROWS OF THIS SEAT. 5 by the template 'for every input the law returns true; each argument reads behind the call as it read before'; 0 by the template 'total and deterministic' (their statements: Qxb6600705aTotals.lean).
  GIVEN WITH THE SEED: the statements are not yours to turn. If you find one false, say at which input.
  Laid BY PROGRAM, IN A SANDBOX (cutbox-rows.mjs): the forced cells as the released guide's own fill.sh prints them over the translation 4373d839ee2de137… (all of the seat's roots in one cut). By AI agents, Wed Nov 11 2026. No macro, syntax, notation, axiom, sorry.
-/
import Derived.Test.Qxb6600705aChecked
import GoSem.Claim
import GoSem.ClaimJoined
import GoSem.ClaimMapViews
import Derived.JoinedTies
import Derived.KernelRfl
namespace Go.Proofs.Qxb6600705a
/- THE CELL 'sum', in the pinned program and in every row, IS THE sha256 OF THE DUMP (.gsa) THAT Qxb6600705aProg.lean LOADS. Nothing in Lean hashes anything: it is a label: what it is worth is what the hold of that sum in a sandbox is worth. -/
noncomputable def Try.pinned : Pinned := { name := "qxb6600705a", sum := "4373d839ee2de13746d9f18ac26b9401a9f77d4bef7aa1b8aee4e5674420d530", checked := Try.checked }
namespace Rows
def none {H : Type} : Left H := { results := [], args := [] }

/-- 'zzlaws_pkg_compensation_b1.FnFitsSplitsAtEveryCut': WHATEVER THE INPUT: true; the input reads as it did. -/
def fnFitsSplitsAtEveryCutSpec : ChangeSpec := { name := "fnFitsSplitsAtEveryCut", fn := fun _ => fun
  | [d1, d2, d3, d4] => { results := [.lit (.bool true)], args := [d1, d2, d3, d4] }
  | _ => none }
def fnFitsSplitsAtEveryCutRow : OpenClaim := { program := "qxb6600705a", sum := "4373d839ee2de13746d9f18ac26b9401a9f77d4bef7aa1b8aee4e5674420d530", func := "example.com/counterstep/counterstep/zzlaws_pkg_compensation_b1.FnFitsSplitsAtEveryCut", spec := "fnFitsSplitsAtEveryCut", apart := false }
def FnFitsSplitsAtEveryCutSaid : Prop := fnFitsSplitsAtEveryCutRow.holds Try.pinned (OpenSpec.ofChange fnFitsSplitsAtEveryCutSpec)

/-- ITS FALSE NEIGHBOUR: 'it returns false'. Refute it at one input. -/
def fnFitsSplitsAtEveryCutWrong : ChangeSpec := { name := "fnFitsSplitsAtEveryCut", fn := fun _ => fun
  | [d1, d2, d3, d4] => { results := [.lit (.bool false)], args := [d1, d2, d3, d4] }
  | _ => none }
def FnFitsSplitsAtEveryCutWrongFalsely : Prop := fnFitsSplitsAtEveryCutRow.holds Try.pinned (OpenSpec.ofChange fnFitsSplitsAtEveryCutWrong)

/-- 'zzlaws_pkg_compensation_b1.FnFitsFormFitsItsOwnInstances': WHATEVER THE INPUT: true; the input reads as it did. -/
def fnFitsFormFitsItsOwnInstancesSpec : ChangeSpec := { name := "fnFitsFormFitsItsOwnInstances", fn := fun _ => fun
  | [d1, d2] => { results := [.lit (.bool true)], args := [d1, d2] }
  | _ => none }
def fnFitsFormFitsItsOwnInstancesRow : OpenClaim := { program := "qxb6600705a", sum := "4373d839ee2de13746d9f18ac26b9401a9f77d4bef7aa1b8aee4e5674420d530", func := "example.com/counterstep/counterstep/zzlaws_pkg_compensation_b1.FnFitsFormFitsItsOwnInstances", spec := "fnFitsFormFitsItsOwnInstances", apart := false }
def FnFitsFormFitsItsOwnInstancesSaid : Prop := fnFitsFormFitsItsOwnInstancesRow.holds Try.pinned (OpenSpec.ofChange fnFitsFormFitsItsOwnInstancesSpec)

/-- ITS FALSE NEIGHBOUR: 'it returns false'. Refute it at one input. -/
def fnFitsFormFitsItsOwnInstancesWrong : ChangeSpec := { name := "fnFitsFormFitsItsOwnInstances", fn := fun _ => fun
  | [d1, d2] => { results := [.lit (.bool false)], args := [d1, d2] }
  | _ => none }
def FnFitsFormFitsItsOwnInstancesWrongFalsely : Prop := fnFitsFormFitsItsOwnInstancesRow.holds Try.pinned (OpenSpec.ofChange fnFitsFormFitsItsOwnInstancesWrong)

/-- 'zzlaws_pkg_compensation_b1.FnNumberIsPlaceValueSum': WHATEVER THE INPUT: true; the input reads as it did. -/
def fnNumberIsPlaceValueSumSpec : ChangeSpec := { name := "fnNumberIsPlaceValueSum", fn := fun _ => fun
  | [d] => { results := [.lit (.bool true)], args := [d] }
  | _ => none }
def fnNumberIsPlaceValueSumRow : OpenClaim := { program := "qxb6600705a", sum := "4373d839ee2de13746d9f18ac26b9401a9f77d4bef7aa1b8aee4e5674420d530", func := "example.com/counterstep/counterstep/zzlaws_pkg_compensation_b1.FnNumberIsPlaceValueSum", spec := "fnNumberIsPlaceValueSum", apart := false }
def FnNumberIsPlaceValueSumSaid : Prop := fnNumberIsPlaceValueSumRow.holds Try.pinned (OpenSpec.ofChange fnNumberIsPlaceValueSumSpec)

/-- ITS FALSE NEIGHBOUR: 'it returns false'. Refute it at one input. -/
def fnNumberIsPlaceValueSumWrong : ChangeSpec := { name := "fnNumberIsPlaceValueSum", fn := fun _ => fun
  | [d] => { results := [.lit (.bool false)], args := [d] }
  | _ => none }
def FnNumberIsPlaceValueSumWrongFalsely : Prop := fnNumberIsPlaceValueSumRow.holds Try.pinned (OpenSpec.ofChange fnNumberIsPlaceValueSumWrong)

/-- 'zzlaws_pkg_compensation_b1.FnNumberReadsBackItsDecimal': WHATEVER THE INPUT: true; the input reads as it did. -/
def fnNumberReadsBackItsDecimalSpec : ChangeSpec := { name := "fnNumberReadsBackItsDecimal", fn := fun _ => fun
  | [d1, d2] => { results := [.lit (.bool true)], args := [d1, d2] }
  | _ => none }
def fnNumberReadsBackItsDecimalRow : OpenClaim := { program := "qxb6600705a", sum := "4373d839ee2de13746d9f18ac26b9401a9f77d4bef7aa1b8aee4e5674420d530", func := "example.com/counterstep/counterstep/zzlaws_pkg_compensation_b1.FnNumberReadsBackItsDecimal", spec := "fnNumberReadsBackItsDecimal", apart := false }
def FnNumberReadsBackItsDecimalSaid : Prop := fnNumberReadsBackItsDecimalRow.holds Try.pinned (OpenSpec.ofChange fnNumberReadsBackItsDecimalSpec)

/-- ITS FALSE NEIGHBOUR: 'it returns false'. Refute it at one input. -/
def fnNumberReadsBackItsDecimalWrong : ChangeSpec := { name := "fnNumberReadsBackItsDecimal", fn := fun _ => fun
  | [d1, d2] => { results := [.lit (.bool false)], args := [d1, d2] }
  | _ => none }
def FnNumberReadsBackItsDecimalWrongFalsely : Prop := fnNumberReadsBackItsDecimalRow.holds Try.pinned (OpenSpec.ofChange fnNumberReadsBackItsDecimalWrong)

/-- 'zzlaws_pkg_compensation_b1.FnNumberOrderFollowsTextOrder': WHATEVER THE INPUT: true; the input reads as it did. -/
def fnNumberOrderFollowsTextOrderSpec : ChangeSpec := { name := "fnNumberOrderFollowsTextOrder", fn := fun _ => fun
  | [d1, d2] => { results := [.lit (.bool true)], args := [d1, d2] }
  | _ => none }
def fnNumberOrderFollowsTextOrderRow : OpenClaim := { program := "qxb6600705a", sum := "4373d839ee2de13746d9f18ac26b9401a9f77d4bef7aa1b8aee4e5674420d530", func := "example.com/counterstep/counterstep/zzlaws_pkg_compensation_b1.FnNumberOrderFollowsTextOrder", spec := "fnNumberOrderFollowsTextOrder", apart := false }
def FnNumberOrderFollowsTextOrderSaid : Prop := fnNumberOrderFollowsTextOrderRow.holds Try.pinned (OpenSpec.ofChange fnNumberOrderFollowsTextOrderSpec)

/-- ITS FALSE NEIGHBOUR: 'it returns false'. Refute it at one input. -/
def fnNumberOrderFollowsTextOrderWrong : ChangeSpec := { name := "fnNumberOrderFollowsTextOrder", fn := fun _ => fun
  | [d1, d2] => { results := [.lit (.bool false)], args := [d1, d2] }
  | _ => none }
def FnNumberOrderFollowsTextOrderWrongFalsely : Prop := fnNumberOrderFollowsTextOrderRow.holds Try.pinned (OpenSpec.ofChange fnNumberOrderFollowsTextOrderWrong)

end Rows
end Go.Proofs.Qxb6600705a
