/-
  No cell of these rows narrows 'for every input' (looked for: loops, veiled, ifaces, maps, wideKeys, modest, calm, conditions, laid).
  DERIVED. THE GIVEN ROWS OF THIS SEAT. 1 by the template 'for every input the law returns true; each argument reads behind the call as it read before'; 0 by the template 'total and deterministic' (their statements: Qxb6618280aTotals.lean).
  GIVEN WITH THE SEED: the statements are not yours to turn. If you find one false, say at which input.
  Laid BY PROGRAM, IN A SANDBOX (cutbox-rows.mjs): the forced cells as the released guide's own fill.sh prints them over the translation 5e3988d42d4b18b3… (all of the seat's roots in one cut). By AI agents, Wed Nov 11 2026. No macro, syntax, notation, axiom, sorry.
-/
import Derived.Test.Qxb6618280aChecked
import GoSem.Claim
import GoSem.ClaimJoined
import GoSem.ClaimMapViews
import Derived.JoinedTies
import Derived.KernelRfl
namespace Go.Proofs.Qxb6618280a
/- THE CELL 'sum', in the pinned program and in every row, IS THE sha256 OF THE DUMP (.gsa) THAT Qxb6618280aProg.lean LOADS. Nothing in Lean hashes anything: it is a label: what it is worth is what the hold of that sum in a sandbox is worth. -/
noncomputable def Try.pinned : Pinned := { name := "qxb6618280a", sum := "5e3988d42d4b18b3c72e48f4a33735b06deb34d76ae10f9982ce4a9dc022d0ef", checked := Try.checked }
namespace Rows
def none {H : Type} : Left H := { results := [], args := [] }

/-- 'zzlaws_oid_b1.FnCutSubidentifierSplitsAtFirstClearOctet': WHATEVER THE INPUT: true; the input reads as it did. -/
def fnCutSubidentifierSplitsAtFirstClearOctetSpec : ChangeSpec := { name := "fnCutSubidentifierSplitsAtFirstClearOctet", fn := fun _ => fun
  | [d1, d2] => { results := [.lit (.bool true)], args := [d1, d2] }
  | _ => none }
def fnCutSubidentifierSplitsAtFirstClearOctetRow : OpenClaim := { program := "qxb6618280a", sum := "5e3988d42d4b18b3c72e48f4a33735b06deb34d76ae10f9982ce4a9dc022d0ef", func := "example.com/concordat/concordat/zzlaws_oid_b1.FnCutSubidentifierSplitsAtFirstClearOctet", spec := "fnCutSubidentifierSplitsAtFirstClearOctet", apart := false }
def FnCutSubidentifierSplitsAtFirstClearOctetSaid : Prop := fnCutSubidentifierSplitsAtFirstClearOctetRow.holds Try.pinned (OpenSpec.ofChange fnCutSubidentifierSplitsAtFirstClearOctetSpec)

/-- ITS FALSE NEIGHBOUR: 'it returns false'. Refute it at one input. -/
def fnCutSubidentifierSplitsAtFirstClearOctetWrong : ChangeSpec := { name := "fnCutSubidentifierSplitsAtFirstClearOctet", fn := fun _ => fun
  | [d1, d2] => { results := [.lit (.bool false)], args := [d1, d2] }
  | _ => none }
def FnCutSubidentifierSplitsAtFirstClearOctetWrongFalsely : Prop := fnCutSubidentifierSplitsAtFirstClearOctetRow.holds Try.pinned (OpenSpec.ofChange fnCutSubidentifierSplitsAtFirstClearOctetWrong)

end Rows
end Go.Proofs.Qxb6618280a
