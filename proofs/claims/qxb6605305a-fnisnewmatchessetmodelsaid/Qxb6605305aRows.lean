/-
  No cell of these rows narrows 'for every input' (looked for: loops, veiled, ifaces, maps, wideKeys, modest, calm, conditions, laid).
  DERIVED. THE GIVEN ROWS OF THIS SEAT. 4 by the template 'for every input the law returns true; each argument reads behind the call as it read before'; 0 by the template 'total and deterministic' (their statements: Qxb6605305aTotals.lean).
  GIVEN WITH THE SEED: the statements are not yours to turn. If you find one false, say at which input.
  Laid BY PROGRAM, IN A SANDBOX (cutbox-rows.mjs): the forced cells as the released guide's own fill.sh prints them over the translation 8e70e9535c484df5… (all of the seat's roots in one cut). By AI agents, Wed Nov 11 2026. No macro, syntax, notation, axiom, sorry.
-/
import Derived.Test.Qxb6605305aChecked
import GoSem.Claim
import GoSem.ClaimJoined
import GoSem.ClaimMapViews
import Derived.JoinedTies
import Derived.KernelRfl
namespace Go.Proofs.Qxb6605305a
/- THE CELL 'sum', in the pinned program and in every row, IS THE sha256 OF THE DUMP (.gsa) THAT Qxb6605305aProg.lean LOADS. Nothing in Lean hashes anything: it is a label: what it is worth is what the hold of that sum in a sandbox is worth. -/
noncomputable def Try.pinned : Pinned := { name := "qxb6605305a", sum := "8e70e9535c484df5b54f6367481f178888a465c7e22920ad4b9be7cd25cbcb02", checked := Try.checked }
namespace Rows
def none {H : Type} : Left H := { results := [], args := [] }

/-- 'zzlaws_pkg_strictjson_b1.FnIsNewMatchesSetModel': WHATEVER THE INPUT: true; the input reads as it did. -/
def fnIsNewMatchesSetModelSpec : ChangeSpec := { name := "fnIsNewMatchesSetModel", fn := fun _ => fun
  | [d1, d2, d3, d4] => { results := [.lit (.bool true)], args := [d1, d2, d3, d4] }
  | _ => none }
def fnIsNewMatchesSetModelRow : OpenClaim := { program := "qxb6605305a", sum := "8e70e9535c484df5b54f6367481f178888a465c7e22920ad4b9be7cd25cbcb02", func := "example.com/vestline/vestline/zzlaws_pkg_strictjson_b1.FnIsNewMatchesSetModel", spec := "fnIsNewMatchesSetModel", apart := false }
def FnIsNewMatchesSetModelSaid : Prop := fnIsNewMatchesSetModelRow.holds Try.pinned (OpenSpec.ofChange fnIsNewMatchesSetModelSpec)

/-- ITS FALSE NEIGHBOUR: 'it returns false'. Refute it at one input. -/
def fnIsNewMatchesSetModelWrong : ChangeSpec := { name := "fnIsNewMatchesSetModel", fn := fun _ => fun
  | [d1, d2, d3, d4] => { results := [.lit (.bool false)], args := [d1, d2, d3, d4] }
  | _ => none }
def FnIsNewMatchesSetModelWrongFalsely : Prop := fnIsNewMatchesSetModelRow.holds Try.pinned (OpenSpec.ofChange fnIsNewMatchesSetModelWrong)

/-- 'zzlaws_pkg_strictjson_b1.FnIsNewScriptAcceptsExactlyFirstOccurrences': WHATEVER THE INPUT: true; the input reads as it did. -/
def fnIsNewScriptAcceptsExactlyFirstOccurrencesSpec : ChangeSpec := { name := "fnIsNewScriptAcceptsExactlyFirstOccurrences", fn := fun _ => fun
  | [d] => { results := [.lit (.bool true)], args := [d] }
  | _ => none }
def fnIsNewScriptAcceptsExactlyFirstOccurrencesRow : OpenClaim := { program := "qxb6605305a", sum := "8e70e9535c484df5b54f6367481f178888a465c7e22920ad4b9be7cd25cbcb02", func := "example.com/vestline/vestline/zzlaws_pkg_strictjson_b1.FnIsNewScriptAcceptsExactlyFirstOccurrences", spec := "fnIsNewScriptAcceptsExactlyFirstOccurrences", apart := false }
def FnIsNewScriptAcceptsExactlyFirstOccurrencesSaid : Prop := fnIsNewScriptAcceptsExactlyFirstOccurrencesRow.holds Try.pinned (OpenSpec.ofChange fnIsNewScriptAcceptsExactlyFirstOccurrencesSpec)

/-- ITS FALSE NEIGHBOUR: 'it returns false'. Refute it at one input. -/
def fnIsNewScriptAcceptsExactlyFirstOccurrencesWrong : ChangeSpec := { name := "fnIsNewScriptAcceptsExactlyFirstOccurrences", fn := fun _ => fun
  | [d] => { results := [.lit (.bool false)], args := [d] }
  | _ => none }
def FnIsNewScriptAcceptsExactlyFirstOccurrencesWrongFalsely : Prop := fnIsNewScriptAcceptsExactlyFirstOccurrencesRow.holds Try.pinned (OpenSpec.ofChange fnIsNewScriptAcceptsExactlyFirstOccurrencesWrong)

/-- 'zzlaws_pkg_strictjson_b1.FnDescribeNamesEachKindApart': WHATEVER THE INPUT: true; the input reads as it did. -/
def fnDescribeNamesEachKindApartSpec : ChangeSpec := { name := "fnDescribeNamesEachKindApart", fn := fun _ => fun
  | [d] => { results := [.lit (.bool true)], args := [d] }
  | _ => none }
def fnDescribeNamesEachKindApartRow : OpenClaim := { program := "qxb6605305a", sum := "8e70e9535c484df5b54f6367481f178888a465c7e22920ad4b9be7cd25cbcb02", func := "example.com/vestline/vestline/zzlaws_pkg_strictjson_b1.FnDescribeNamesEachKindApart", spec := "fnDescribeNamesEachKindApart", apart := false }
def FnDescribeNamesEachKindApartSaid : Prop := fnDescribeNamesEachKindApartRow.holds Try.pinned (OpenSpec.ofChange fnDescribeNamesEachKindApartSpec)

/-- ITS FALSE NEIGHBOUR: 'it returns false'. Refute it at one input. -/
def fnDescribeNamesEachKindApartWrong : ChangeSpec := { name := "fnDescribeNamesEachKindApart", fn := fun _ => fun
  | [d] => { results := [.lit (.bool false)], args := [d] }
  | _ => none }
def FnDescribeNamesEachKindApartWrongFalsely : Prop := fnDescribeNamesEachKindApartRow.holds Try.pinned (OpenSpec.ofChange fnDescribeNamesEachKindApartWrong)

/-- 'zzlaws_pkg_strictjson_b1.FnIsNameMatchesCountModel': WHATEVER THE INPUT: true; the input reads as it did. -/
def fnIsNameMatchesCountModelSpec : ChangeSpec := { name := "fnIsNameMatchesCountModel", fn := fun _ => fun
  | [d] => { results := [.lit (.bool true)], args := [d] }
  | _ => none }
def fnIsNameMatchesCountModelRow : OpenClaim := { program := "qxb6605305a", sum := "8e70e9535c484df5b54f6367481f178888a465c7e22920ad4b9be7cd25cbcb02", func := "example.com/vestline/vestline/zzlaws_pkg_strictjson_b1.FnIsNameMatchesCountModel", spec := "fnIsNameMatchesCountModel", apart := false }
def FnIsNameMatchesCountModelSaid : Prop := fnIsNameMatchesCountModelRow.holds Try.pinned (OpenSpec.ofChange fnIsNameMatchesCountModelSpec)

/-- ITS FALSE NEIGHBOUR: 'it returns false'. Refute it at one input. -/
def fnIsNameMatchesCountModelWrong : ChangeSpec := { name := "fnIsNameMatchesCountModel", fn := fun _ => fun
  | [d] => { results := [.lit (.bool false)], args := [d] }
  | _ => none }
def FnIsNameMatchesCountModelWrongFalsely : Prop := fnIsNameMatchesCountModelRow.holds Try.pinned (OpenSpec.ofChange fnIsNameMatchesCountModelWrong)

end Rows
end Go.Proofs.Qxb6605305a
