/-
  No cell of these rows narrows 'for every input' (looked for: loops, veiled, ifaces, maps, wideKeys, modest, calm, conditions, laid).
  DERIVED. THE GIVEN ROWS OF THIS SEAT. 2 by the template 'for every input the law returns true; each argument reads behind the call as it read before'; 0 by the template 'total and deterministic' (their statements: Qxb6623397aTotals.lean).
  GIVEN WITH THE SEED: the statements are not yours to turn. If you find one false, say at which input.
  Laid BY PROGRAM, IN A SANDBOX (cutbox-rows.mjs): the forced cells as the released guide's own fill.sh prints them over the translation bb9f537a3bb73910… (all of the seat's roots in one cut). By AI agents, Wed Nov 11 2026. No macro, syntax, notation, axiom, sorry.
-/
import Derived.Test.Qxb6623397aChecked
import GoSem.Claim
import GoSem.ClaimJoined
import GoSem.ClaimMapViews
import Derived.JoinedTies
import Derived.KernelRfl
namespace Go.Proofs.Qxb6623397a
/- THE CELL 'sum', in the pinned program and in every row, IS THE sha256 OF THE DUMP (.gsa) THAT Qxb6623397aProg.lean LOADS. Nothing in Lean hashes anything: it is a label: what it is worth is what the hold of that sum in a sandbox is worth. -/
noncomputable def Try.pinned : Pinned := { name := "qxb6623397a", sum := "bb9f537a3bb739104af92f3171e6fe3f43f422b77fa61da1a65aef538eadd2fb", checked := Try.checked }
namespace Rows
def none {H : Type} : Left H := { results := [], args := [] }

/-- 'zzlaws_internal_suggest_b1.FnMixUndoneByInverse': WHATEVER THE INPUT: true; the input reads as it did. -/
def fnMixUndoneByInverseSpec : ChangeSpec := { name := "fnMixUndoneByInverse", fn := fun _ => fun
  | [d] => { results := [.lit (.bool true)], args := [d] }
  | _ => none }
def fnMixUndoneByInverseRow : OpenClaim := { program := "qxb6623397a", sum := "bb9f537a3bb739104af92f3171e6fe3f43f422b77fa61da1a65aef538eadd2fb", func := "example.com/lognormal/lognormal/zzlaws_internal_suggest_b1.FnMixUndoneByInverse", spec := "fnMixUndoneByInverse", apart := false }
def FnMixUndoneByInverseSaid : Prop := fnMixUndoneByInverseRow.holds Try.pinned (OpenSpec.ofChange fnMixUndoneByInverseSpec)

/-- ITS FALSE NEIGHBOUR: 'it returns false'. Refute it at one input. -/
def fnMixUndoneByInverseWrong : ChangeSpec := { name := "fnMixUndoneByInverse", fn := fun _ => fun
  | [d] => { results := [.lit (.bool false)], args := [d] }
  | _ => none }
def FnMixUndoneByInverseWrongFalsely : Prop := fnMixUndoneByInverseRow.holds Try.pinned (OpenSpec.ofChange fnMixUndoneByInverseWrong)

/-- 'zzlaws_internal_suggest_b1.FnMixReachesEveryValue': WHATEVER THE INPUT: true; the input reads as it did. -/
def fnMixReachesEveryValueSpec : ChangeSpec := { name := "fnMixReachesEveryValue", fn := fun _ => fun
  | [d] => { results := [.lit (.bool true)], args := [d] }
  | _ => none }
def fnMixReachesEveryValueRow : OpenClaim := { program := "qxb6623397a", sum := "bb9f537a3bb739104af92f3171e6fe3f43f422b77fa61da1a65aef538eadd2fb", func := "example.com/lognormal/lognormal/zzlaws_internal_suggest_b1.FnMixReachesEveryValue", spec := "fnMixReachesEveryValue", apart := false }
def FnMixReachesEveryValueSaid : Prop := fnMixReachesEveryValueRow.holds Try.pinned (OpenSpec.ofChange fnMixReachesEveryValueSpec)

/-- ITS FALSE NEIGHBOUR: 'it returns false'. Refute it at one input. -/
def fnMixReachesEveryValueWrong : ChangeSpec := { name := "fnMixReachesEveryValue", fn := fun _ => fun
  | [d] => { results := [.lit (.bool false)], args := [d] }
  | _ => none }
def FnMixReachesEveryValueWrongFalsely : Prop := fnMixReachesEveryValueRow.holds Try.pinned (OpenSpec.ofChange fnMixReachesEveryValueWrong)

end Rows
end Go.Proofs.Qxb6623397a
