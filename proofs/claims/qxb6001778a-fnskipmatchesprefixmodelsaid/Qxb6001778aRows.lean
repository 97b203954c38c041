/-
  No cell of these rows narrows 'for every input' (looked for: loops, veiled, ifaces, maps, wideKeys, modest, calm, conditions, laid).
  DERIVED. THE GIVEN ROWS OF THIS SEAT. 3 by the template 'for every input the law returns true; each argument reads behind the call as it read before'; 0 by the template 'total and deterministic' (their statements: Qxb6001778aTotals.lean).
  GIVEN WITH THE SEED: the statements are not yours to turn. If you find one false, say at which input.
  Laid BY PROGRAM, IN A SANDBOX (cutbox-rows.mjs): the forced cells as the released guide's own fill.sh prints them over the translation 59448507abebc8af… (all of the seat's roots in one cut). By AI agents, Wed Nov 11 2026. No macro, syntax, notation, axiom, sorry.
-/
import Derived.Test.Qxb6001778aChecked
import GoSem.Claim
import GoSem.ClaimJoined
import GoSem.ClaimMapViews
import Derived.JoinedTies
import Derived.KernelRfl
namespace Go.Proofs.Qxb6001778a
/- THE CELL 'sum', in the pinned program and in every row, IS THE sha256 OF THE DUMP (.gsa) THAT Qxb6001778aProg.lean LOADS. Nothing in Lean hashes anything: it is a label: what it is worth is what the hold of that sum in a sandbox is worth. -/
noncomputable def Try.pinned : Pinned := { name := "qxb6001778a", sum := "59448507abebc8af0fed3311574c5945d3878c300770844475b82419d331c765", checked := Try.checked }
namespace Rows
def none {H : Type} : Left H := { results := [], args := [] }

/-- 'zzlaws_pkg_rules_b1.FnValueNextFalseAfterValueRead': WHATEVER THE INPUT: true; the input reads as it did. -/
def fnValueNextFalseAfterValueReadSpec : ChangeSpec := { name := "fnValueNextFalseAfterValueRead", fn := fun _ => fun
  | [d1, d2] => { results := [.lit (.bool true)], args := [d1, d2] }
  | _ => none }
def fnValueNextFalseAfterValueReadRow : OpenClaim := { program := "qxb6001778a", sum := "59448507abebc8af0fed3311574c5945d3878c300770844475b82419d331c765", func := "example.com/tuoguan/tuoguan/zzlaws_pkg_rules_b1.FnValueNextFalseAfterValueRead", spec := "fnValueNextFalseAfterValueRead", apart := false }
def FnValueNextFalseAfterValueReadSaid : Prop := fnValueNextFalseAfterValueReadRow.holds Try.pinned (OpenSpec.ofChange fnValueNextFalseAfterValueReadSpec)

/-- ITS FALSE NEIGHBOUR: 'it returns false'. Refute it at one input. -/
def fnValueNextFalseAfterValueReadWrong : ChangeSpec := { name := "fnValueNextFalseAfterValueRead", fn := fun _ => fun
  | [d1, d2] => { results := [.lit (.bool false)], args := [d1, d2] }
  | _ => none }
def FnValueNextFalseAfterValueReadWrongFalsely : Prop := fnValueNextFalseAfterValueReadRow.holds Try.pinned (OpenSpec.ofChange fnValueNextFalseAfterValueReadWrong)

/-- 'zzlaws_pkg_rules_b1.FnSkipMatchesPrefixModel': WHATEVER THE INPUT: true; the input reads as it did. -/
def fnSkipMatchesPrefixModelSpec : ChangeSpec := { name := "fnSkipMatchesPrefixModel", fn := fun _ => fun
  | [d1, d2, d3] => { results := [.lit (.bool true)], args := [d1, d2, d3] }
  | _ => none }
def fnSkipMatchesPrefixModelRow : OpenClaim := { program := "qxb6001778a", sum := "59448507abebc8af0fed3311574c5945d3878c300770844475b82419d331c765", func := "example.com/tuoguan/tuoguan/zzlaws_pkg_rules_b1.FnSkipMatchesPrefixModel", spec := "fnSkipMatchesPrefixModel", apart := false }
def FnSkipMatchesPrefixModelSaid : Prop := fnSkipMatchesPrefixModelRow.holds Try.pinned (OpenSpec.ofChange fnSkipMatchesPrefixModelSpec)

/-- ITS FALSE NEIGHBOUR: 'it returns false'. Refute it at one input. -/
def fnSkipMatchesPrefixModelWrong : ChangeSpec := { name := "fnSkipMatchesPrefixModel", fn := fun _ => fun
  | [d1, d2, d3] => { results := [.lit (.bool false)], args := [d1, d2, d3] }
  | _ => none }
def FnSkipMatchesPrefixModelWrongFalsely : Prop := fnSkipMatchesPrefixModelRow.holds Try.pinned (OpenSpec.ofChange fnSkipMatchesPrefixModelWrong)

/-- 'zzlaws_pkg_rules_b1.FnSkipConcatenation': WHATEVER THE INPUT: true; the input reads as it did. -/
def fnSkipConcatenationSpec : ChangeSpec := { name := "fnSkipConcatenation", fn := fun _ => fun
  | [d1, d2, d3, d4] => { results := [.lit (.bool true)], args := [d1, d2, d3, d4] }
  | _ => none }
def fnSkipConcatenationRow : OpenClaim := { program := "qxb6001778a", sum := "59448507abebc8af0fed3311574c5945d3878c300770844475b82419d331c765", func := "example.com/tuoguan/tuoguan/zzlaws_pkg_rules_b1.FnSkipConcatenation", spec := "fnSkipConcatenation", apart := false }
def FnSkipConcatenationSaid : Prop := fnSkipConcatenationRow.holds Try.pinned (OpenSpec.ofChange fnSkipConcatenationSpec)

/-- ITS FALSE NEIGHBOUR: 'it returns false'. Refute it at one input. -/
def fnSkipConcatenationWrong : ChangeSpec := { name := "fnSkipConcatenation", fn := fun _ => fun
  | [d1, d2, d3, d4] => { results := [.lit (.bool false)], args := [d1, d2, d3, d4] }
  | _ => none }
def FnSkipConcatenationWrongFalsely : Prop := fnSkipConcatenationRow.holds Try.pinned (OpenSpec.ofChange fnSkipConcatenationWrong)

end Rows
end Go.Proofs.Qxb6001778a
