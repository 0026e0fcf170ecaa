/-
  No cell of these rows narrows 'for every input' (looked for: loops, veiled, ifaces, maps, wideKeys, modest, calm, conditions, laid).
  DERIVED. THE GIVEN ROWS OF THIS SEAT. 6 by the template 'for every input the law returns true; each argument reads behind the call as it read before'; 0 by the template 'total and deterministic' (their statements: Qxb6617097aTotals.lean).
  GIVEN WITH THE SEED: the statements are not yours to turn. If you find one false, say at which input.
  Laid BY PROGRAM, IN A SANDBOX (cutbox-rows.mjs): the forced cells as the released guide's own fill.sh prints them over the translation 9e36124d8f9635f7… (all of the seat's roots in one cut). By AI agents, Wed Nov 11 2026. No macro, syntax, notation, axiom, sorry.
-/
import Derived.Test.Qxb6617097aChecked
import GoSem.Claim
import GoSem.ClaimJoined
import GoSem.ClaimMapViews
import Derived.JoinedTies
import Derived.KernelRfl
namespace Go.Proofs.Qxb6617097a
/- THE CELL 'sum', in the pinned program and in every row, IS THE sha256 OF THE DUMP (.gsa) THAT Qxb6617097aProg.lean LOADS. Nothing in Lean hashes anything: it is a label: what it is worth is what the hold of that sum in a sandbox is worth. -/
noncomputable def Try.pinned : Pinned := { name := "qxb6617097a", sum := "9e36124d8f9635f707deaec6e538e7e00d29a95343a8bbf0931514f00ecac13f", checked := Try.checked }
namespace Rows
def none {H : Type} : Left H := { results := [], args := [] }

/-- 'zzlaws_internal_certifier_b1.FnNewestIsLeastUpperBound': WHATEVER THE INPUT: true; the input reads as it did. -/
def fnNewestIsLeastUpperBoundSpec : ChangeSpec := { name := "fnNewestIsLeastUpperBound", fn := fun _ => fun
  | [d1, d2, d3, d4] => { results := [.lit (.bool true)], args := [d1, d2, d3, d4] }
  | _ => none }
def fnNewestIsLeastUpperBoundRow : OpenClaim := { program := "qxb6617097a", sum := "9e36124d8f9635f707deaec6e538e7e00d29a95343a8bbf0931514f00ecac13f", func := "example.com/snapline/snapline/zzlaws_internal_certifier_b1.FnNewestIsLeastUpperBound", spec := "fnNewestIsLeastUpperBound", apart := false }
def FnNewestIsLeastUpperBoundSaid : Prop := fnNewestIsLeastUpperBoundRow.holds Try.pinned (OpenSpec.ofChange fnNewestIsLeastUpperBoundSpec)

/-- ITS FALSE NEIGHBOUR: 'it returns false'. Refute it at one input. -/
def fnNewestIsLeastUpperBoundWrong : ChangeSpec := { name := "fnNewestIsLeastUpperBound", fn := fun _ => fun
  | [d1, d2, d3, d4] => { results := [.lit (.bool false)], args := [d1, d2, d3, d4] }
  | _ => none }
def FnNewestIsLeastUpperBoundWrongFalsely : Prop := fnNewestIsLeastUpperBoundRow.holds Try.pinned (OpenSpec.ofChange fnNewestIsLeastUpperBoundWrong)

/-- 'zzlaws_internal_certifier_b1.FnNewestAfterANewerWrite': WHATEVER THE INPUT: true; the input reads as it did. -/
def fnNewestAfterANewerWriteSpec : ChangeSpec := { name := "fnNewestAfterANewerWrite", fn := fun _ => fun
  | [d1, d2, d3, d4, d5, d6] => { results := [.lit (.bool true)], args := [d1, d2, d3, d4, d5, d6] }
  | _ => none }
def fnNewestAfterANewerWriteRow : OpenClaim := { program := "qxb6617097a", sum := "9e36124d8f9635f707deaec6e538e7e00d29a95343a8bbf0931514f00ecac13f", func := "example.com/snapline/snapline/zzlaws_internal_certifier_b1.FnNewestAfterANewerWrite", spec := "fnNewestAfterANewerWrite", apart := false }
def FnNewestAfterANewerWriteSaid : Prop := fnNewestAfterANewerWriteRow.holds Try.pinned (OpenSpec.ofChange fnNewestAfterANewerWriteSpec)

/-- ITS FALSE NEIGHBOUR: 'it returns false'. Refute it at one input. -/
def fnNewestAfterANewerWriteWrong : ChangeSpec := { name := "fnNewestAfterANewerWrite", fn := fun _ => fun
  | [d1, d2, d3, d4, d5, d6] => { results := [.lit (.bool false)], args := [d1, d2, d3, d4, d5, d6] }
  | _ => none }
def FnNewestAfterANewerWriteWrongFalsely : Prop := fnNewestAfterANewerWriteRow.holds Try.pinned (OpenSpec.ofChange fnNewestAfterANewerWriteWrong)

/-- 'zzlaws_internal_certifier_b1.FnAppendChainsInInsertionOrder': WHATEVER THE INPUT: true; the input reads as it did. -/
def fnAppendChainsInInsertionOrderSpec : ChangeSpec := { name := "fnAppendChainsInInsertionOrder", fn := fun _ => fun
  | [d] => { results := [.lit (.bool true)], args := [d] }
  | _ => none }
def fnAppendChainsInInsertionOrderRow : OpenClaim := { program := "qxb6617097a", sum := "9e36124d8f9635f707deaec6e538e7e00d29a95343a8bbf0931514f00ecac13f", func := "example.com/snapline/snapline/zzlaws_internal_certifier_b1.FnAppendChainsInInsertionOrder", spec := "fnAppendChainsInInsertionOrder", apart := false }
def FnAppendChainsInInsertionOrderSaid : Prop := fnAppendChainsInInsertionOrderRow.holds Try.pinned (OpenSpec.ofChange fnAppendChainsInInsertionOrderSpec)

/-- ITS FALSE NEIGHBOUR: 'it returns false'. Refute it at one input. -/
def fnAppendChainsInInsertionOrderWrong : ChangeSpec := { name := "fnAppendChainsInInsertionOrder", fn := fun _ => fun
  | [d] => { results := [.lit (.bool false)], args := [d] }
  | _ => none }
def FnAppendChainsInInsertionOrderWrongFalsely : Prop := fnAppendChainsInInsertionOrderRow.holds Try.pinned (OpenSpec.ofChange fnAppendChainsInInsertionOrderWrong)

/-- 'zzlaws_internal_certifier_b1.FnAppendThenUnlinkRestoresList': WHATEVER THE INPUT: true; the input reads as it did. -/
def fnAppendThenUnlinkRestoresListSpec : ChangeSpec := { name := "fnAppendThenUnlinkRestoresList", fn := fun _ => fun
  | [d1, d2] => { results := [.lit (.bool true)], args := [d1, d2] }
  | _ => none }
def fnAppendThenUnlinkRestoresListRow : OpenClaim := { program := "qxb6617097a", sum := "9e36124d8f9635f707deaec6e538e7e00d29a95343a8bbf0931514f00ecac13f", func := "example.com/snapline/snapline/zzlaws_internal_certifier_b1.FnAppendThenUnlinkRestoresList", spec := "fnAppendThenUnlinkRestoresList", apart := false }
def FnAppendThenUnlinkRestoresListSaid : Prop := fnAppendThenUnlinkRestoresListRow.holds Try.pinned (OpenSpec.ofChange fnAppendThenUnlinkRestoresListSpec)

/-- ITS FALSE NEIGHBOUR: 'it returns false'. Refute it at one input. -/
def fnAppendThenUnlinkRestoresListWrong : ChangeSpec := { name := "fnAppendThenUnlinkRestoresList", fn := fun _ => fun
  | [d1, d2] => { results := [.lit (.bool false)], args := [d1, d2] }
  | _ => none }
def FnAppendThenUnlinkRestoresListWrongFalsely : Prop := fnAppendThenUnlinkRestoresListRow.holds Try.pinned (OpenSpec.ofChange fnAppendThenUnlinkRestoresListWrong)

/-- 'zzlaws_internal_certifier_b1.FnUnlinkTakesOutExactlyThatEntry': WHATEVER THE INPUT: true; the input reads as it did. -/
def fnUnlinkTakesOutExactlyThatEntrySpec : ChangeSpec := { name := "fnUnlinkTakesOutExactlyThatEntry", fn := fun _ => fun
  | [d1, d2] => { results := [.lit (.bool true)], args := [d1, d2] }
  | _ => none }
def fnUnlinkTakesOutExactlyThatEntryRow : OpenClaim := { program := "qxb6617097a", sum := "9e36124d8f9635f707deaec6e538e7e00d29a95343a8bbf0931514f00ecac13f", func := "example.com/snapline/snapline/zzlaws_internal_certifier_b1.FnUnlinkTakesOutExactlyThatEntry", spec := "fnUnlinkTakesOutExactlyThatEntry", apart := false }
def FnUnlinkTakesOutExactlyThatEntrySaid : Prop := fnUnlinkTakesOutExactlyThatEntryRow.holds Try.pinned (OpenSpec.ofChange fnUnlinkTakesOutExactlyThatEntrySpec)

/-- ITS FALSE NEIGHBOUR: 'it returns false'. Refute it at one input. -/
def fnUnlinkTakesOutExactlyThatEntryWrong : ChangeSpec := { name := "fnUnlinkTakesOutExactlyThatEntry", fn := fun _ => fun
  | [d1, d2] => { results := [.lit (.bool false)], args := [d1, d2] }
  | _ => none }
def FnUnlinkTakesOutExactlyThatEntryWrongFalsely : Prop := fnUnlinkTakesOutExactlyThatEntryRow.holds Try.pinned (OpenSpec.ofChange fnUnlinkTakesOutExactlyThatEntryWrong)

/-- 'zzlaws_internal_certifier_b1.FnUnlinkThenAppendMovesToBack': WHATEVER THE INPUT: true; the input reads as it did. -/
def fnUnlinkThenAppendMovesToBackSpec : ChangeSpec := { name := "fnUnlinkThenAppendMovesToBack", fn := fun _ => fun
  | [d1, d2] => { results := [.lit (.bool true)], args := [d1, d2] }
  | _ => none }
def fnUnlinkThenAppendMovesToBackRow : OpenClaim := { program := "qxb6617097a", sum := "9e36124d8f9635f707deaec6e538e7e00d29a95343a8bbf0931514f00ecac13f", func := "example.com/snapline/snapline/zzlaws_internal_certifier_b1.FnUnlinkThenAppendMovesToBack", spec := "fnUnlinkThenAppendMovesToBack", apart := false }
def FnUnlinkThenAppendMovesToBackSaid : Prop := fnUnlinkThenAppendMovesToBackRow.holds Try.pinned (OpenSpec.ofChange fnUnlinkThenAppendMovesToBackSpec)

/-- ITS FALSE NEIGHBOUR: 'it returns false'. Refute it at one input. -/
def fnUnlinkThenAppendMovesToBackWrong : ChangeSpec := { name := "fnUnlinkThenAppendMovesToBack", fn := fun _ => fun
  | [d1, d2] => { results := [.lit (.bool false)], args := [d1, d2] }
  | _ => none }
def FnUnlinkThenAppendMovesToBackWrongFalsely : Prop := fnUnlinkThenAppendMovesToBackRow.holds Try.pinned (OpenSpec.ofChange fnUnlinkThenAppendMovesToBackWrong)

end Rows
end Go.Proofs.Qxb6617097a
