/-
  No cell of these rows narrows 'for every input' (looked for: loops, veiled, ifaces, maps, wideKeys, modest, calm, conditions, laid).
  DERIVED. THE GIVEN ROWS OF THIS SEAT. 1 by the template 'for every input the law returns true; each argument reads behind the call as it read before'; 0 by the template 'total and deterministic' (their statements: Qxb6623456aTotals.lean).
  GIVEN WITH THE SEED: the statements are not yours to turn. If you find one false, say at which input.
  Laid BY PROGRAM, IN A SANDBOX (cutbox-rows.mjs): the forced cells as the released guide's own fill.sh prints them over the translation edcfdf359a19271e… (all of the seat's roots in one cut). By AI agents, Wed Nov 11 2026. No macro, syntax, notation, axiom, sorry.
-/
import Derived.Test.Qxb6623456aChecked
import GoSem.Claim
import GoSem.ClaimJoined
import GoSem.ClaimMapViews
import Derived.JoinedTies
import Derived.KernelRfl
namespace Go.Proofs.Qxb6623456a
/- THE CELL 'sum', in the pinned program and in every row, IS THE sha256 OF THE DUMP (.gsa) THAT Qxb6623456aProg.lean LOADS. Nothing in Lean hashes anything: it is a label: what it is worth is what the hold of that sum in a sandbox is worth. -/
noncomputable def Try.pinned : Pinned := { name := "qxb6623456a", sum := "edcfdf359a19271e9ebc5d6f1299960f4fae58e9668c2a6d9669b5d88ac99d12", checked := Try.checked }
namespace Rows
def none {H : Type} : Left H := { results := [], args := [] }

/-- 'zzlaws_internal_flatjson_b1.FnSkipSpaceStopsAtFirstNonSpaceAnyCut': WHATEVER THE INPUT: true; the input reads as it did. -/
def fnSkipSpaceStopsAtFirstNonSpaceAnyCutSpec : ChangeSpec := { name := "fnSkipSpaceStopsAtFirstNonSpaceAnyCut", fn := fun _ => fun
  | [d1, d2, d3] => { results := [.lit (.bool true)], args := [d1, d2, d3] }
  | _ => none }
def fnSkipSpaceStopsAtFirstNonSpaceAnyCutRow : OpenClaim := { program := "qxb6623456a", sum := "edcfdf359a19271e9ebc5d6f1299960f4fae58e9668c2a6d9669b5d88ac99d12", func := "example.com/rolewarden/rolewarden/zzlaws_internal_flatjson_b1.FnSkipSpaceStopsAtFirstNonSpaceAnyCut", spec := "fnSkipSpaceStopsAtFirstNonSpaceAnyCut", apart := false }
def FnSkipSpaceStopsAtFirstNonSpaceAnyCutSaid : Prop := fnSkipSpaceStopsAtFirstNonSpaceAnyCutRow.holds Try.pinned (OpenSpec.ofChange fnSkipSpaceStopsAtFirstNonSpaceAnyCutSpec)

/-- ITS FALSE NEIGHBOUR: 'it returns false'. Refute it at one input. -/
def fnSkipSpaceStopsAtFirstNonSpaceAnyCutWrong : ChangeSpec := { name := "fnSkipSpaceStopsAtFirstNonSpaceAnyCut", fn := fun _ => fun
  | [d1, d2, d3] => { results := [.lit (.bool false)], args := [d1, d2, d3] }
  | _ => none }
def FnSkipSpaceStopsAtFirstNonSpaceAnyCutWrongFalsely : Prop := fnSkipSpaceStopsAtFirstNonSpaceAnyCutRow.holds Try.pinned (OpenSpec.ofChange fnSkipSpaceStopsAtFirstNonSpaceAnyCutWrong)

end Rows
end Go.Proofs.Qxb6623456a
