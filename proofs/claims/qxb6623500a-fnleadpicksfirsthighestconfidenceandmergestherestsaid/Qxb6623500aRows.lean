/-
  No cell of these rows narrows 'for every input' (looked for: loops, veiled, ifaces, maps, wideKeys, modest, calm, conditions, laid).
  DERIVED. THE GIVEN ROWS OF THIS SEAT. 1 by the template 'for every input the law returns true; each argument reads behind the call as it read before'; 0 by the template 'total and deterministic' (their statements: Qxb6623500aTotals.lean).
  GIVEN WITH THE SEED: the statements are not yours to turn. If you find one false, say at which input.
  Laid BY PROGRAM, IN A SANDBOX (cutbox-rows.mjs): the forced cells as the released guide's own fill.sh prints them over the translation e682ba80a2d473dc… (all of the seat's roots in one cut). By AI agents, Wed Nov 11 2026. No macro, syntax, notation, axiom, sorry.
-/
import Derived.Test.Qxb6623500aChecked
import GoSem.Claim
import GoSem.ClaimJoined
import GoSem.ClaimMapViews
import Derived.JoinedTies
import Derived.KernelRfl
namespace Go.Proofs.Qxb6623500a
/- THE CELL 'sum', in the pinned program and in every row, IS THE sha256 OF THE DUMP (.gsa) THAT Qxb6623500aProg.lean LOADS. Nothing in Lean hashes anything: it is a label: what it is worth is what the hold of that sum in a sandbox is worth. -/
noncomputable def Try.pinned : Pinned := { name := "qxb6623500a", sum := "e682ba80a2d473dc8c957484cac461c1865802bef2c64aaa91cb376654073bf4", checked := Try.checked }
namespace Rows
def none {H : Type} : Left H := { results := [], args := [] }

/-- 'zzlaws_internal_plan_b1.FnLeadPicksFirstHighestConfidenceAndMergesTheRest': WHATEVER THE INPUT: true; the input reads as it did. -/
def fnLeadPicksFirstHighestConfidenceAndMergesTheRestSpec : ChangeSpec := { name := "fnLeadPicksFirstHighestConfidenceAndMergesTheRest", fn := fun _ => fun
  | [d1, d2, d3, d4] => { results := [.lit (.bool true)], args := [d1, d2, d3, d4] }
  | _ => none }
def fnLeadPicksFirstHighestConfidenceAndMergesTheRestRow : OpenClaim := { program := "qxb6623500a", sum := "e682ba80a2d473dc8c957484cac461c1865802bef2c64aaa91cb376654073bf4", func := "example.com/redmark/redmark/zzlaws_internal_plan_b1.FnLeadPicksFirstHighestConfidenceAndMergesTheRest", spec := "fnLeadPicksFirstHighestConfidenceAndMergesTheRest", apart := false }
def FnLeadPicksFirstHighestConfidenceAndMergesTheRestSaid : Prop := fnLeadPicksFirstHighestConfidenceAndMergesTheRestRow.holds Try.pinned (OpenSpec.ofChange fnLeadPicksFirstHighestConfidenceAndMergesTheRestSpec)

/-- ITS FALSE NEIGHBOUR: 'it returns false'. Refute it at one input. -/
def fnLeadPicksFirstHighestConfidenceAndMergesTheRestWrong : ChangeSpec := { name := "fnLeadPicksFirstHighestConfidenceAndMergesTheRest", fn := fun _ => fun
  | [d1, d2, d3, d4] => { results := [.lit (.bool false)], args := [d1, d2, d3, d4] }
  | _ => none }
def FnLeadPicksFirstHighestConfidenceAndMergesTheRestWrongFalsely : Prop := fnLeadPicksFirstHighestConfidenceAndMergesTheRestRow.holds Try.pinned (OpenSpec.ofChange fnLeadPicksFirstHighestConfidenceAndMergesTheRestWrong)

end Rows
end Go.Proofs.Qxb6623500a
