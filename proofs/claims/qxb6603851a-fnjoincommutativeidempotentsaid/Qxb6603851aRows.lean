/-
  No cell of these rows narrows 'for every input' (looked for: loops, veiled, ifaces, maps, wideKeys, modest, calm, conditions, laid).
  DERIVED. THE GIVEN ROWS OF THIS SEAT. 2 by the template 'for every input the law returns true; each argument reads behind the call as it read before'; 0 by the template 'total and deterministic' (their statements: Qxb6603851aTotals.lean).
  GIVEN WITH THE SEED: the statements are not yours to turn. If you find one false, say at which input.
  Laid BY PROGRAM, IN A SANDBOX (cutbox-rows.mjs): the forced cells as the released guide's own fill.sh prints them over the translation 3f1ecc039e39e46a… (all of the seat's roots in one cut). By AI agents, Wed Nov 11 2026. No macro, syntax, notation, axiom, sorry.
-/
import Derived.Test.Qxb6603851aChecked
import GoSem.Claim
import GoSem.ClaimJoined
import GoSem.ClaimMapViews
import Derived.JoinedTies
import Derived.KernelRfl
namespace Go.Proofs.Qxb6603851a
/- THE CELL 'sum', in the pinned program and in every row, IS THE sha256 OF THE DUMP (.gsa) THAT Qxb6603851aProg.lean LOADS. Nothing in Lean hashes anything: it is a label: what it is worth is what the hold of that sum in a sandbox is worth. -/
noncomputable def Try.pinned : Pinned := { name := "qxb6603851a", sum := "3f1ecc039e39e46a6a9ddde9d216994913ca8d8504face51d8010cc6010cd447", checked := Try.checked }
namespace Rows
def none {H : Type} : Left H := { results := [], args := [] }

/-- 'zzlaws_pkg_agent_rewrite_b1.FnHandBacksExact': WHATEVER THE INPUT: true; the input reads as it did. -/
def fnHandBacksExactSpec : ChangeSpec := { name := "fnHandBacksExact", fn := fun _ => fun
  | [d1, d2, d3] => { results := [.lit (.bool true)], args := [d1, d2, d3] }
  | _ => none }
def fnHandBacksExactRow : OpenClaim := { program := "qxb6603851a", sum := "3f1ecc039e39e46a6a9ddde9d216994913ca8d8504face51d8010cc6010cd447", func := "example.com/sojourn/sojourn/zzlaws_pkg_agent_rewrite_b1.FnHandBacksExact", spec := "fnHandBacksExact", inPlace := ["internal/bytealg.IndexByteString"], apart := false }
def FnHandBacksExactSaid : Prop := fnHandBacksExactRow.holds Try.pinned (OpenSpec.ofChange fnHandBacksExactSpec)

/-- ITS FALSE NEIGHBOUR: 'it returns false'. Refute it at one input. -/
def fnHandBacksExactWrong : ChangeSpec := { name := "fnHandBacksExact", fn := fun _ => fun
  | [d1, d2, d3] => { results := [.lit (.bool false)], args := [d1, d2, d3] }
  | _ => none }
def FnHandBacksExactWrongFalsely : Prop := fnHandBacksExactRow.holds Try.pinned (OpenSpec.ofChange fnHandBacksExactWrong)

/-- 'zzlaws_pkg_agent_rewrite_b1.FnJoinCommutativeIdempotent': WHATEVER THE INPUT: true; the input reads as it did. -/
def fnJoinCommutativeIdempotentSpec : ChangeSpec := { name := "fnJoinCommutativeIdempotent", fn := fun _ => fun
  | [d1, d2, d3, d4, d5, d6] => { results := [.lit (.bool true)], args := [d1, d2, d3, d4, d5, d6] }
  | _ => none }
def fnJoinCommutativeIdempotentRow : OpenClaim := { program := "qxb6603851a", sum := "3f1ecc039e39e46a6a9ddde9d216994913ca8d8504face51d8010cc6010cd447", func := "example.com/sojourn/sojourn/zzlaws_pkg_agent_rewrite_b1.FnJoinCommutativeIdempotent", spec := "fnJoinCommutativeIdempotent", apart := false }
def FnJoinCommutativeIdempotentSaid : Prop := fnJoinCommutativeIdempotentRow.holds Try.pinned (OpenSpec.ofChange fnJoinCommutativeIdempotentSpec)

/-- ITS FALSE NEIGHBOUR: 'it returns false'. Refute it at one input. -/
def fnJoinCommutativeIdempotentWrong : ChangeSpec := { name := "fnJoinCommutativeIdempotent", fn := fun _ => fun
  | [d1, d2, d3, d4, d5, d6] => { results := [.lit (.bool false)], args := [d1, d2, d3, d4, d5, d6] }
  | _ => none }
def FnJoinCommutativeIdempotentWrongFalsely : Prop := fnJoinCommutativeIdempotentRow.holds Try.pinned (OpenSpec.ofChange fnJoinCommutativeIdempotentWrong)

end Rows
end Go.Proofs.Qxb6603851a
