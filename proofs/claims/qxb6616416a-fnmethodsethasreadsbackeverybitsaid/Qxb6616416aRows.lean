/-
  No cell of these rows narrows 'for every input' (looked for: loops, veiled, ifaces, maps, wideKeys, modest, calm, conditions, laid).
  DERIVED. THE GIVEN ROWS OF THIS SEAT. 3 by the template 'for every input the law returns true; each argument reads behind the call as it read before'; 0 by the template 'total and deterministic' (their statements: Qxb6616416aTotals.lean).
  GIVEN WITH THE SEED: the statements are not yours to turn. If you find one false, say at which input.
  Laid BY PROGRAM, IN A SANDBOX (cutbox-rows.mjs): the forced cells as the released guide's own fill.sh prints them over the translation 106c16f5bf1e4df1… (all of the seat's roots in one cut). By AI agents, Wed Nov 11 2026. No macro, syntax, notation, axiom, sorry.
-/
import Derived.Test.Qxb6616416aChecked
import GoSem.Claim
import GoSem.ClaimJoined
import GoSem.ClaimMapViews
import Derived.JoinedTies
import Derived.KernelRfl
namespace Go.Proofs.Qxb6616416a
/- THE CELL 'sum', in the pinned program and in every row, IS THE sha256 OF THE DUMP (.gsa) THAT Qxb6616416aProg.lean LOADS. Nothing in Lean hashes anything: it is a label: what it is worth is what the hold of that sum in a sandbox is worth. -/
noncomputable def Try.pinned : Pinned := { name := "qxb6616416a", sum := "106c16f5bf1e4df16fcfab4e79bf4185c7aea9c83d363c785161d68a58190583", checked := Try.checked }
namespace Rows
def none {H : Type} : Left H := { results := [], args := [] }

/-- 'zzlaws_root_b1.FnMethodSetHasReadsBackEveryBit': WHATEVER THE INPUT: true; the input reads as it did. -/
def fnMethodSetHasReadsBackEveryBitSpec : ChangeSpec := { name := "fnMethodSetHasReadsBackEveryBit", fn := fun _ => fun
  | [d1, d2] => { results := [.lit (.bool true)], args := [d1, d2] }
  | _ => none }
def fnMethodSetHasReadsBackEveryBitRow : OpenClaim := { program := "qxb6616416a", sum := "106c16f5bf1e4df16fcfab4e79bf4185c7aea9c83d363c785161d68a58190583", func := "example.com/pathfold/pathfold/zzlaws_root_b1.FnMethodSetHasReadsBackEveryBit", spec := "fnMethodSetHasReadsBackEveryBit", apart := false }
def FnMethodSetHasReadsBackEveryBitSaid : Prop := fnMethodSetHasReadsBackEveryBitRow.holds Try.pinned (OpenSpec.ofChange fnMethodSetHasReadsBackEveryBitSpec)

/-- ITS FALSE NEIGHBOUR: 'it returns false'. Refute it at one input. -/
def fnMethodSetHasReadsBackEveryBitWrong : ChangeSpec := { name := "fnMethodSetHasReadsBackEveryBit", fn := fun _ => fun
  | [d1, d2] => { results := [.lit (.bool false)], args := [d1, d2] }
  | _ => none }
def FnMethodSetHasReadsBackEveryBitWrongFalsely : Prop := fnMethodSetHasReadsBackEveryBitRow.holds Try.pinned (OpenSpec.ofChange fnMethodSetHasReadsBackEveryBitWrong)

/-- 'zzlaws_root_b1.FnHashTellsApartKeysThatDifferInOneWord': WHATEVER THE INPUT: true; the input reads as it did. -/
def fnHashTellsApartKeysThatDifferInOneWordSpec : ChangeSpec := { name := "fnHashTellsApartKeysThatDifferInOneWord", fn := fun _ => fun
  | [d1, d2, d3, d4] => { results := [.lit (.bool true)], args := [d1, d2, d3, d4] }
  | _ => none }
def fnHashTellsApartKeysThatDifferInOneWordRow : OpenClaim := { program := "qxb6616416a", sum := "106c16f5bf1e4df16fcfab4e79bf4185c7aea9c83d363c785161d68a58190583", func := "example.com/pathfold/pathfold/zzlaws_root_b1.FnHashTellsApartKeysThatDifferInOneWord", spec := "fnHashTellsApartKeysThatDifferInOneWord", apart := false }
def FnHashTellsApartKeysThatDifferInOneWordSaid : Prop := fnHashTellsApartKeysThatDifferInOneWordRow.holds Try.pinned (OpenSpec.ofChange fnHashTellsApartKeysThatDifferInOneWordSpec)

/-- ITS FALSE NEIGHBOUR: 'it returns false'. Refute it at one input. -/
def fnHashTellsApartKeysThatDifferInOneWordWrong : ChangeSpec := { name := "fnHashTellsApartKeysThatDifferInOneWord", fn := fun _ => fun
  | [d1, d2, d3, d4] => { results := [.lit (.bool false)], args := [d1, d2, d3, d4] }
  | _ => none }
def FnHashTellsApartKeysThatDifferInOneWordWrongFalsely : Prop := fnHashTellsApartKeysThatDifferInOneWordRow.holds Try.pinned (OpenSpec.ofChange fnHashTellsApartKeysThatDifferInOneWordWrong)

/-- 'zzlaws_root_b1.FnHashLengthTermDoesNotHangOnTheKey': WHATEVER THE INPUT: true; the input reads as it did. -/
def fnHashLengthTermDoesNotHangOnTheKeySpec : ChangeSpec := { name := "fnHashLengthTermDoesNotHangOnTheKey", fn := fun _ => fun
  | [d1, d2, d3, d4, d5, d6] => { results := [.lit (.bool true)], args := [d1, d2, d3, d4, d5, d6] }
  | _ => none }
def fnHashLengthTermDoesNotHangOnTheKeyRow : OpenClaim := { program := "qxb6616416a", sum := "106c16f5bf1e4df16fcfab4e79bf4185c7aea9c83d363c785161d68a58190583", func := "example.com/pathfold/pathfold/zzlaws_root_b1.FnHashLengthTermDoesNotHangOnTheKey", spec := "fnHashLengthTermDoesNotHangOnTheKey", apart := false }
def FnHashLengthTermDoesNotHangOnTheKeySaid : Prop := fnHashLengthTermDoesNotHangOnTheKeyRow.holds Try.pinned (OpenSpec.ofChange fnHashLengthTermDoesNotHangOnTheKeySpec)

/-- ITS FALSE NEIGHBOUR: 'it returns false'. Refute it at one input. -/
def fnHashLengthTermDoesNotHangOnTheKeyWrong : ChangeSpec := { name := "fnHashLengthTermDoesNotHangOnTheKey", fn := fun _ => fun
  | [d1, d2, d3, d4, d5, d6] => { results := [.lit (.bool false)], args := [d1, d2, d3, d4, d5, d6] }
  | _ => none }
def FnHashLengthTermDoesNotHangOnTheKeyWrongFalsely : Prop := fnHashLengthTermDoesNotHangOnTheKeyRow.holds Try.pinned (OpenSpec.ofChange fnHashLengthTermDoesNotHangOnTheKeyWrong)

end Rows
end Go.Proofs.Qxb6616416a
