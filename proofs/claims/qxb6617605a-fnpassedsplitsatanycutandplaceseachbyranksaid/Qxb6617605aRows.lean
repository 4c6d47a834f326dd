/-
  No cell of these rows narrows 'for every input' (looked for: loops, veiled, ifaces, maps, wideKeys, modest, calm, conditions, laid).
  DERIVED. THE GIVEN ROWS OF THIS SEAT. 1 by the template 'for every input the law returns true; each argument reads behind the call as it read before'; 0 by the template 'total and deterministic' (their statements: Qxb6617605aTotals.lean).
  GIVEN WITH THE SEED: the statements are not yours to turn. If you find one false, say at which input.
  Laid BY PROGRAM, IN A SANDBOX (cutbox-rows.mjs): the forced cells as the released guide's own fill.sh prints them over the translation 9a76cb829f77b5ca… (all of the seat's roots in one cut). By AI agents, Wed Nov 11 2026. No macro, syntax, notation, axiom, sorry.
-/
import Derived.Test.Qxb6617605aChecked
import GoSem.Claim
import GoSem.ClaimJoined
import GoSem.ClaimMapViews
import Derived.JoinedTies
import Derived.KernelRfl
namespace Go.Proofs.Qxb6617605a
/- THE CELL 'sum', in the pinned program and in every row, IS THE sha256 OF THE DUMP (.gsa) THAT Qxb6617605aProg.lean LOADS. Nothing in Lean hashes anything: it is a label: what it is worth is what the hold of that sum in a sandbox is worth. -/
noncomputable def Try.pinned : Pinned := { name := "qxb6617605a", sum := "9a76cb829f77b5ca5b66c34c672ee7f88239e5986362544f94cf57750f2cda64", checked := Try.checked }
namespace Rows
def none {H : Type} : Left H := { results := [], args := [] }

/-- 'zzlaws_internal_statedir_b1.FnPassedSplitsAtAnyCutAndPlacesEachByRank': WHATEVER THE INPUT: true; the input reads as it did. -/
def fnPassedSplitsAtAnyCutAndPlacesEachByRankSpec : ChangeSpec := { name := "fnPassedSplitsAtAnyCutAndPlacesEachByRank", fn := fun _ => fun
  | [d1, d2, d3, d4] => { results := [.lit (.bool true)], args := [d1, d2, d3, d4] }
  | _ => none }
def fnPassedSplitsAtAnyCutAndPlacesEachByRankRow : OpenClaim := { program := "qxb6617605a", sum := "9a76cb829f77b5ca5b66c34c672ee7f88239e5986362544f94cf57750f2cda64", func := "example.com/onceward/onceward/zzlaws_internal_statedir_b1.FnPassedSplitsAtAnyCutAndPlacesEachByRank", spec := "fnPassedSplitsAtAnyCutAndPlacesEachByRank", apart := false }
def FnPassedSplitsAtAnyCutAndPlacesEachByRankSaid : Prop := fnPassedSplitsAtAnyCutAndPlacesEachByRankRow.holds Try.pinned (OpenSpec.ofChange fnPassedSplitsAtAnyCutAndPlacesEachByRankSpec)

/-- ITS FALSE NEIGHBOUR: 'it returns false'. Refute it at one input. -/
def fnPassedSplitsAtAnyCutAndPlacesEachByRankWrong : ChangeSpec := { name := "fnPassedSplitsAtAnyCutAndPlacesEachByRank", fn := fun _ => fun
  | [d1, d2, d3, d4] => { results := [.lit (.bool false)], args := [d1, d2, d3, d4] }
  | _ => none }
def FnPassedSplitsAtAnyCutAndPlacesEachByRankWrongFalsely : Prop := fnPassedSplitsAtAnyCutAndPlacesEachByRankRow.holds Try.pinned (OpenSpec.ofChange fnPassedSplitsAtAnyCutAndPlacesEachByRankWrong)

end Rows
end Go.Proofs.Qxb6617605a
