/-
  No cell of these rows narrows 'for every input' (looked for: loops, veiled, ifaces, maps, wideKeys, modest, calm, conditions, laid).
  DERIVED. THE GIVEN ROWS OF THIS SEAT. 1 by the template 'for every input the law returns true; each argument reads behind the call as it read before'; 0 by the template 'total and deterministic' (their statements: Qxb6617629aTotals.lean).
  GIVEN WITH THE SEED: the statements are not yours to turn. If you find one false, say at which input.
  Laid BY PROGRAM, IN A SANDBOX (cutbox-rows.mjs): the forced cells as the released guide's own fill.sh prints them over the translation 2efbeb8b35ceb0f1… (all of the seat's roots in one cut). By AI agents, Wed Nov 11 2026. No macro, syntax, notation, axiom, sorry.
-/
import Derived.Test.Qxb6617629aChecked
import GoSem.Claim
import GoSem.ClaimJoined
import GoSem.ClaimMapViews
import Derived.JoinedTies
import Derived.KernelRfl
namespace Go.Proofs.Qxb6617629a
/- THE CELL 'sum', in the pinned program and in every row, IS THE sha256 OF THE DUMP (.gsa) THAT Qxb6617629aProg.lean LOADS. Nothing in Lean hashes anything: it is a label: what it is worth is what the hold of that sum in a sandbox is worth. -/
noncomputable def Try.pinned : Pinned := { name := "qxb6617629a", sum := "2efbeb8b35ceb0f1ce31e2bd4c550d2a56fd779db5898a34da83fdc45d5c877d", checked := Try.checked }
namespace Rows
def none {H : Type} : Left H := { results := [], args := [] }

/-- 'zzlaws_root_b1.FnUID11TextDecodesAndSortsAsPayload': WHATEVER THE INPUT: true; the input reads as it did. -/
def fnUID11TextDecodesAndSortsAsPayloadSpec : ChangeSpec := { name := "fnUID11TextDecodesAndSortsAsPayload", fn := fun _ => fun
  | [d1, d2, d3, d4] => { results := [.lit (.bool true)], args := [d1, d2, d3, d4] }
  | _ => none }
def fnUID11TextDecodesAndSortsAsPayloadRow : OpenClaim := { program := "qxb6617629a", sum := "2efbeb8b35ceb0f1ce31e2bd4c550d2a56fd779db5898a34da83fdc45d5c877d", func := "example.com/lexident/lexident/zzlaws_root_b1.FnUID11TextDecodesAndSortsAsPayload", spec := "fnUID11TextDecodesAndSortsAsPayload", apart := false }
def FnUID11TextDecodesAndSortsAsPayloadSaid : Prop := fnUID11TextDecodesAndSortsAsPayloadRow.holds Try.pinned (OpenSpec.ofChange fnUID11TextDecodesAndSortsAsPayloadSpec)

/-- ITS FALSE NEIGHBOUR: 'it returns false'. Refute it at one input. -/
def fnUID11TextDecodesAndSortsAsPayloadWrong : ChangeSpec := { name := "fnUID11TextDecodesAndSortsAsPayload", fn := fun _ => fun
  | [d1, d2, d3, d4] => { results := [.lit (.bool false)], args := [d1, d2, d3, d4] }
  | _ => none }
def FnUID11TextDecodesAndSortsAsPayloadWrongFalsely : Prop := fnUID11TextDecodesAndSortsAsPayloadRow.holds Try.pinned (OpenSpec.ofChange fnUID11TextDecodesAndSortsAsPayloadWrong)

end Rows
end Go.Proofs.Qxb6617629a
