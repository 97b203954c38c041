/-
  No cell of these rows narrows 'for every input' (looked for: loops, veiled, ifaces, maps, wideKeys, modest, calm, conditions, laid).
  DERIVED. THE GIVEN ROWS OF THIS SEAT. 3 by the template 'for every input the law returns true; each argument reads behind the call as it read before'; 0 by the template 'total and deterministic' (their statements: Qxb6001803aTotals.lean).
  GIVEN WITH THE SEED: the statements are not yours to turn. If you find one false, say at which input.
  Laid BY PROGRAM, IN A SANDBOX (cutbox-rows.mjs): the forced cells as the released guide's own fill.sh prints them over the translation 62c47ed9c9b52470… (all of the seat's roots in one cut). By AI agents, Wed Nov 11 2026. No macro, syntax, notation, axiom, sorry.
-/
import Derived.Test.Qxb6001803aChecked
import GoSem.Claim
import GoSem.ClaimJoined
import GoSem.ClaimMapViews
import Derived.JoinedTies
import Derived.KernelRfl
namespace Go.Proofs.Qxb6001803a
/- THE CELL 'sum', in the pinned program and in every row, IS THE sha256 OF THE DUMP (.gsa) THAT Qxb6001803aProg.lean LOADS. Nothing in Lean hashes anything: it is a label: what it is worth is what the hold of that sum in a sandbox is worth. -/
noncomputable def Try.pinned : Pinned := { name := "qxb6001803a", sum := "62c47ed9c9b5247047ea18725d43be0825ddc53c4f5729df33bcc3f4cf30b8bb", checked := Try.checked }
namespace Rows
def none {H : Type} : Left H := { results := [], args := [] }

/-- 'zzlaws_local_b1.FnHasElementSplitUnion': WHATEVER THE INPUT: true; the input reads as it did. -/
def fnHasElementSplitUnionSpec : ChangeSpec := { name := "fnHasElementSplitUnion", fn := fun _ => fun
  | [d1, d2, d3] => { results := [.lit (.bool true)], args := [d1, d2, d3] }
  | _ => none }
def fnHasElementSplitUnionRow : OpenClaim := { program := "qxb6001803a", sum := "62c47ed9c9b5247047ea18725d43be0825ddc53c4f5729df33bcc3f4cf30b8bb", func := "example.com/shardkeeper/shardkeeper/zzlaws_local_b1.FnHasElementSplitUnion", spec := "fnHasElementSplitUnion", apart := false }
def FnHasElementSplitUnionSaid : Prop := fnHasElementSplitUnionRow.holds Try.pinned (OpenSpec.ofChange fnHasElementSplitUnionSpec)

/-- ITS FALSE NEIGHBOUR: 'it returns false'. Refute it at one input. -/
def fnHasElementSplitUnionWrong : ChangeSpec := { name := "fnHasElementSplitUnion", fn := fun _ => fun
  | [d1, d2, d3] => { results := [.lit (.bool false)], args := [d1, d2, d3] }
  | _ => none }
def FnHasElementSplitUnionWrongFalsely : Prop := fnHasElementSplitUnionRow.holds Try.pinned (OpenSpec.ofChange fnHasElementSplitUnionWrong)

/-- 'zzlaws_local_b1.FnHasElementOrderFree': WHATEVER THE INPUT: true; the input reads as it did. -/
def fnHasElementOrderFreeSpec : ChangeSpec := { name := "fnHasElementOrderFree", fn := fun _ => fun
  | [d1, d2] => { results := [.lit (.bool true)], args := [d1, d2] }
  | _ => none }
def fnHasElementOrderFreeRow : OpenClaim := { program := "qxb6001803a", sum := "62c47ed9c9b5247047ea18725d43be0825ddc53c4f5729df33bcc3f4cf30b8bb", func := "example.com/shardkeeper/shardkeeper/zzlaws_local_b1.FnHasElementOrderFree", spec := "fnHasElementOrderFree", apart := false }
def FnHasElementOrderFreeSaid : Prop := fnHasElementOrderFreeRow.holds Try.pinned (OpenSpec.ofChange fnHasElementOrderFreeSpec)

/-- ITS FALSE NEIGHBOUR: 'it returns false'. Refute it at one input. -/
def fnHasElementOrderFreeWrong : ChangeSpec := { name := "fnHasElementOrderFree", fn := fun _ => fun
  | [d1, d2] => { results := [.lit (.bool false)], args := [d1, d2] }
  | _ => none }
def FnHasElementOrderFreeWrongFalsely : Prop := fnHasElementOrderFreeRow.holds Try.pinned (OpenSpec.ofChange fnHasElementOrderFreeWrong)

/-- 'zzlaws_local_b1.FnHasElementAfterAdd': WHATEVER THE INPUT: true; the input reads as it did. -/
def fnHasElementAfterAddSpec : ChangeSpec := { name := "fnHasElementAfterAdd", fn := fun _ => fun
  | [d1, d2, d3] => { results := [.lit (.bool true)], args := [d1, d2, d3] }
  | _ => none }
def fnHasElementAfterAddRow : OpenClaim := { program := "qxb6001803a", sum := "62c47ed9c9b5247047ea18725d43be0825ddc53c4f5729df33bcc3f4cf30b8bb", func := "example.com/shardkeeper/shardkeeper/zzlaws_local_b1.FnHasElementAfterAdd", spec := "fnHasElementAfterAdd", apart := false }
def FnHasElementAfterAddSaid : Prop := fnHasElementAfterAddRow.holds Try.pinned (OpenSpec.ofChange fnHasElementAfterAddSpec)

/-- ITS FALSE NEIGHBOUR: 'it returns false'. Refute it at one input. -/
def fnHasElementAfterAddWrong : ChangeSpec := { name := "fnHasElementAfterAdd", fn := fun _ => fun
  | [d1, d2, d3] => { results := [.lit (.bool false)], args := [d1, d2, d3] }
  | _ => none }
def FnHasElementAfterAddWrongFalsely : Prop := fnHasElementAfterAddRow.holds Try.pinned (OpenSpec.ofChange fnHasElementAfterAddWrong)

end Rows
end Go.Proofs.Qxb6001803a
