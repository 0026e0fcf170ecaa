/-
  No cell of these rows narrows 'for every input' (looked for: loops, veiled, ifaces, maps, wideKeys, modest, calm, conditions, laid).
  DERIVED. THE GIVEN ROWS OF THIS SEAT. 2 by the template 'for every input the law returns true; each argument reads behind the call as it read before'; 0 by the template 'total and deterministic' (their statements: Qxb6617109aTotals.lean).
  GIVEN WITH THE SEED: the statements are not yours to turn. If you find one false, say at which input.
  Laid BY PROGRAM, IN A SANDBOX (cutbox-rows.mjs): the forced cells as the released guide's own fill.sh prints them over the translation f2f419b8c9f3fc20… (all of the seat's roots in one cut). By AI agents, Wed Nov 11 2026. No macro, syntax, notation, axiom, sorry.
-/
import Derived.Test.Qxb6617109aChecked
import GoSem.Claim
import GoSem.ClaimJoined
import GoSem.ClaimMapViews
import Derived.JoinedTies
import Derived.KernelRfl
namespace Go.Proofs.Qxb6617109a
/- THE CELL 'sum', in the pinned program and in every row, IS THE sha256 OF THE DUMP (.gsa) THAT Qxb6617109aProg.lean LOADS. Nothing in Lean hashes anything: it is a label: what it is worth is what the hold of that sum in a sandbox is worth. -/
noncomputable def Try.pinned : Pinned := { name := "qxb6617109a", sum := "f2f419b8c9f3fc206c8b493284d4dd649c73a7b795fff1a564e1f32ec615a9fe", checked := Try.checked }
namespace Rows
def none {H : Type} : Left H := { results := [], args := [] }

/-- 'zzlaws_pkg_decimal_b1.FnAllDigitsNumeralsAndCuts': WHATEVER THE INPUT: true; the input reads as it did. -/
def fnAllDigitsNumeralsAndCutsSpec : ChangeSpec := { name := "fnAllDigitsNumeralsAndCuts", fn := fun _ => fun
  | [d1, d2, d3] => { results := [.lit (.bool true)], args := [d1, d2, d3] }
  | _ => none }
def fnAllDigitsNumeralsAndCutsRow : OpenClaim := { program := "qxb6617109a", sum := "f2f419b8c9f3fc206c8b493284d4dd649c73a7b795fff1a564e1f32ec615a9fe", func := "example.com/fundward/fundward/zzlaws_pkg_decimal_b1.FnAllDigitsNumeralsAndCuts", spec := "fnAllDigitsNumeralsAndCuts", apart := false }
def FnAllDigitsNumeralsAndCutsSaid : Prop := fnAllDigitsNumeralsAndCutsRow.holds Try.pinned (OpenSpec.ofChange fnAllDigitsNumeralsAndCutsSpec)

/-- ITS FALSE NEIGHBOUR: 'it returns false'. Refute it at one input. -/
def fnAllDigitsNumeralsAndCutsWrong : ChangeSpec := { name := "fnAllDigitsNumeralsAndCuts", fn := fun _ => fun
  | [d1, d2, d3] => { results := [.lit (.bool false)], args := [d1, d2, d3] }
  | _ => none }
def FnAllDigitsNumeralsAndCutsWrongFalsely : Prop := fnAllDigitsNumeralsAndCutsRow.holds Try.pinned (OpenSpec.ofChange fnAllDigitsNumeralsAndCutsWrong)

/-- 'zzlaws_pkg_decimal_b1.FnAllDigitsOneByteDecides': WHATEVER THE INPUT: true; the input reads as it did. -/
def fnAllDigitsOneByteDecidesSpec : ChangeSpec := { name := "fnAllDigitsOneByteDecides", fn := fun _ => fun
  | [d1, d2, d3, d4] => { results := [.lit (.bool true)], args := [d1, d2, d3, d4] }
  | _ => none }
def fnAllDigitsOneByteDecidesRow : OpenClaim := { program := "qxb6617109a", sum := "f2f419b8c9f3fc206c8b493284d4dd649c73a7b795fff1a564e1f32ec615a9fe", func := "example.com/fundward/fundward/zzlaws_pkg_decimal_b1.FnAllDigitsOneByteDecides", spec := "fnAllDigitsOneByteDecides", apart := false }
def FnAllDigitsOneByteDecidesSaid : Prop := fnAllDigitsOneByteDecidesRow.holds Try.pinned (OpenSpec.ofChange fnAllDigitsOneByteDecidesSpec)

/-- ITS FALSE NEIGHBOUR: 'it returns false'. Refute it at one input. -/
def fnAllDigitsOneByteDecidesWrong : ChangeSpec := { name := "fnAllDigitsOneByteDecides", fn := fun _ => fun
  | [d1, d2, d3, d4] => { results := [.lit (.bool false)], args := [d1, d2, d3, d4] }
  | _ => none }
def FnAllDigitsOneByteDecidesWrongFalsely : Prop := fnAllDigitsOneByteDecidesRow.holds Try.pinned (OpenSpec.ofChange fnAllDigitsOneByteDecidesWrong)

end Rows
end Go.Proofs.Qxb6617109a
