/-
  No cell of these rows narrows 'for every input' (looked for: loops, veiled, ifaces, maps, wideKeys, modest, calm, conditions, laid).
  DERIVED. THE GIVEN ROWS OF THIS SEAT. 1 by the template 'for every input the law returns true; each argument reads behind the call as it read before'; 0 by the template 'total and deterministic' (their statements: Qxb6617736aTotals.lean).
  GIVEN WITH THE SEED: the statements are not yours to turn. If you find one false, say at which input.
  Laid BY PROGRAM, IN A SANDBOX (cutbox-rows.mjs): the forced cells as the released guide's own fill.sh prints them over the translation 09709a7308d45fe5… (all of the seat's roots in one cut). By AI agents, Wed Nov 11 2026. No macro, syntax, notation, axiom, sorry.
-/
import Derived.Test.Qxb6617736aChecked
import GoSem.Claim
import GoSem.ClaimJoined
import GoSem.ClaimMapViews
import Derived.JoinedTies
import Derived.KernelRfl
namespace Go.Proofs.Qxb6617736a
/- THE CELL 'sum', in the pinned program and in every row, IS THE sha256 OF THE DUMP (.gsa) THAT Qxb6617736aProg.lean LOADS. Nothing in Lean hashes anything: it is a label: what it is worth is what the hold of that sum in a sandbox is worth. -/
noncomputable def Try.pinned : Pinned := { name := "qxb6617736a", sum := "09709a7308d45fe5de27ec77c4e8c7fc5103bbcb6b4d2f4f99a15c3c8d572288", checked := Try.checked }
namespace Rows
def none {H : Type} : Left H := { results := [], args := [] }

/-- 'zzlaws_pkg_xacml_b1.FnElementStringNamePrefixCut': WHATEVER THE INPUT: true; the input reads as it did. -/
def fnElementStringNamePrefixCutSpec : ChangeSpec := { name := "fnElementStringNamePrefixCut", fn := fun _ => fun
  | [d1, d2, d3] => { results := [.lit (.bool true)], args := [d1, d2, d3] }
  | _ => none }
def fnElementStringNamePrefixCutRow : OpenClaim := { program := "qxb6617736a", sum := "09709a7308d45fe5de27ec77c4e8c7fc5103bbcb6b4d2f4f99a15c3c8d572288", func := "example.com/sayso/sayso/zzlaws_pkg_xacml_b1.FnElementStringNamePrefixCut", spec := "fnElementStringNamePrefixCut", apart := false }
def FnElementStringNamePrefixCutSaid : Prop := fnElementStringNamePrefixCutRow.holds Try.pinned (OpenSpec.ofChange fnElementStringNamePrefixCutSpec)

/-- ITS FALSE NEIGHBOUR: 'it returns false'. Refute it at one input. -/
def fnElementStringNamePrefixCutWrong : ChangeSpec := { name := "fnElementStringNamePrefixCut", fn := fun _ => fun
  | [d1, d2, d3] => { results := [.lit (.bool false)], args := [d1, d2, d3] }
  | _ => none }
def FnElementStringNamePrefixCutWrongFalsely : Prop := fnElementStringNamePrefixCutRow.holds Try.pinned (OpenSpec.ofChange fnElementStringNamePrefixCutWrong)

end Rows
end Go.Proofs.Qxb6617736a
