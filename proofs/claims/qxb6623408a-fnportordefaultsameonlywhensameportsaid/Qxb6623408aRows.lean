/-
  No cell of these rows narrows 'for every input' (looked for: loops, veiled, ifaces, maps, wideKeys, modest, calm, conditions, laid).
  DERIVED. THE GIVEN ROWS OF THIS SEAT. 1 by the template 'for every input the law returns true; each argument reads behind the call as it read before'; 0 by the template 'total and deterministic' (their statements: Qxb6623408aTotals.lean).
  GIVEN WITH THE SEED: the statements are not yours to turn. If you find one false, say at which input.
  Laid BY PROGRAM, IN A SANDBOX (cutbox-rows.mjs): the forced cells as the released guide's own fill.sh prints them over the translation 16fb2f3c32b6acb8… (all of the seat's roots in one cut). By AI agents, Wed Nov 11 2026. No macro, syntax, notation, axiom, sorry.
-/
import Derived.Test.Qxb6623408aChecked
import GoSem.Claim
import GoSem.ClaimJoined
import GoSem.ClaimMapViews
import Derived.JoinedTies
import Derived.KernelRfl
namespace Go.Proofs.Qxb6623408a
/- THE CELL 'sum', in the pinned program and in every row, IS THE sha256 OF THE DUMP (.gsa) THAT Qxb6623408aProg.lean LOADS. Nothing in Lean hashes anything: it is a label: what it is worth is what the hold of that sum in a sandbox is worth. -/
noncomputable def Try.pinned : Pinned := { name := "qxb6623408a", sum := "16fb2f3c32b6acb8a2a4f954b503fbca3b5c332c751a9d8aaa7e3f6608234e36", checked := Try.checked }
namespace Rows
def none {H : Type} : Left H := { results := [], args := [] }

/-- 'zzlaws_pkg_sip_b1.FnPortOrDefaultSameOnlyWhenSamePort': WHATEVER THE INPUT: true; the input reads as it did. -/
def fnPortOrDefaultSameOnlyWhenSamePortSpec : ChangeSpec := { name := "fnPortOrDefaultSameOnlyWhenSamePort", fn := fun _ => fun
  | [d1, d2] => { results := [.lit (.bool true)], args := [d1, d2] }
  | _ => none }
def fnPortOrDefaultSameOnlyWhenSamePortRow : OpenClaim := { program := "qxb6623408a", sum := "16fb2f3c32b6acb8a2a4f954b503fbca3b5c332c751a9d8aaa7e3f6608234e36", func := "example.com/continuo/continuo/zzlaws_pkg_sip_b1.FnPortOrDefaultSameOnlyWhenSamePort", spec := "fnPortOrDefaultSameOnlyWhenSamePort", apart := false }
def FnPortOrDefaultSameOnlyWhenSamePortSaid : Prop := fnPortOrDefaultSameOnlyWhenSamePortRow.holds Try.pinned (OpenSpec.ofChange fnPortOrDefaultSameOnlyWhenSamePortSpec)

/-- ITS FALSE NEIGHBOUR: 'it returns false'. Refute it at one input. -/
def fnPortOrDefaultSameOnlyWhenSamePortWrong : ChangeSpec := { name := "fnPortOrDefaultSameOnlyWhenSamePort", fn := fun _ => fun
  | [d1, d2] => { results := [.lit (.bool false)], args := [d1, d2] }
  | _ => none }
def FnPortOrDefaultSameOnlyWhenSamePortWrongFalsely : Prop := fnPortOrDefaultSameOnlyWhenSamePortRow.holds Try.pinned (OpenSpec.ofChange fnPortOrDefaultSameOnlyWhenSamePortWrong)

end Rows
end Go.Proofs.Qxb6623408a
