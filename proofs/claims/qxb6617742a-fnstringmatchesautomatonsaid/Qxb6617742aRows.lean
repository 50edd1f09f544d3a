/-
  No cell of these rows narrows 'for every input' (looked for: loops, veiled, ifaces, maps, wideKeys, modest, calm, conditions, laid).
  DERIVED. THE GIVEN ROWS OF THIS SEAT. 2 by the template 'for every input the law returns true; each argument reads behind the call as it read before'; 0 by the template 'total and deterministic' (their statements: Qxb6617742aTotals.lean).
  GIVEN WITH THE SEED: the statements are not yours to turn. If you find one false, say at which input.
  Laid BY PROGRAM, IN A SANDBOX (cutbox-rows.mjs): the forced cells as the released guide's own fill.sh prints them over the translation 1a8fe008c26dd465… (all of the seat's roots in one cut). By AI agents, Wed Nov 11 2026. No macro, syntax, notation, axiom, sorry.
-/
import Derived.Test.Qxb6617742aChecked
import GoSem.Claim
import GoSem.ClaimJoined
import GoSem.ClaimMapViews
import Derived.JoinedTies
import Derived.KernelRfl
namespace Go.Proofs.Qxb6617742a
/- THE CELL 'sum', in the pinned program and in every row, IS THE sha256 OF THE DUMP (.gsa) THAT Qxb6617742aProg.lean LOADS. Nothing in Lean hashes anything: it is a label: what it is worth is what the hold of that sum in a sandbox is worth. -/
noncomputable def Try.pinned : Pinned := { name := "qxb6617742a", sum := "1a8fe008c26dd465d52f621b9ad866bc8a765554021d3b433eba16da7a4ebdc3", checked := Try.checked }
namespace Rows
def none {H : Type} : Left H := { results := [], args := [] }

/-- 'zzlaws_jsonscan_b1.FnStringMatchesAutomaton': WHATEVER THE INPUT: true; the input reads as it did. -/
def fnStringMatchesAutomatonSpec : ChangeSpec := { name := "fnStringMatchesAutomaton", fn := fun _ => fun
  | [d1, d2, d3] => { results := [.lit (.bool true)], args := [d1, d2, d3] }
  | _ => none }
def fnStringMatchesAutomatonRow : OpenClaim := { program := "qxb6617742a", sum := "1a8fe008c26dd465d52f621b9ad866bc8a765554021d3b433eba16da7a4ebdc3", func := "example.com/xorbit/xorbit/zzlaws_jsonscan_b1.FnStringMatchesAutomaton", spec := "fnStringMatchesAutomaton", apart := false }
def FnStringMatchesAutomatonSaid : Prop := fnStringMatchesAutomatonRow.holds Try.pinned (OpenSpec.ofChange fnStringMatchesAutomatonSpec)

/-- ITS FALSE NEIGHBOUR: 'it returns false'. Refute it at one input. -/
def fnStringMatchesAutomatonWrong : ChangeSpec := { name := "fnStringMatchesAutomaton", fn := fun _ => fun
  | [d1, d2, d3] => { results := [.lit (.bool false)], args := [d1, d2, d3] }
  | _ => none }
def FnStringMatchesAutomatonWrongFalsely : Prop := fnStringMatchesAutomatonRow.holds Try.pinned (OpenSpec.ofChange fnStringMatchesAutomatonWrong)

/-- 'zzlaws_jsonscan_b1.FnStringAcceptsQuotedText': WHATEVER THE INPUT: true; the input reads as it did. -/
def fnStringAcceptsQuotedTextSpec : ChangeSpec := { name := "fnStringAcceptsQuotedText", fn := fun _ => fun
  | [d1, d2, d3, d4] => { results := [.lit (.bool true)], args := [d1, d2, d3, d4] }
  | _ => none }
def fnStringAcceptsQuotedTextRow : OpenClaim := { program := "qxb6617742a", sum := "1a8fe008c26dd465d52f621b9ad866bc8a765554021d3b433eba16da7a4ebdc3", func := "example.com/xorbit/xorbit/zzlaws_jsonscan_b1.FnStringAcceptsQuotedText", spec := "fnStringAcceptsQuotedText", apart := false }
def FnStringAcceptsQuotedTextSaid : Prop := fnStringAcceptsQuotedTextRow.holds Try.pinned (OpenSpec.ofChange fnStringAcceptsQuotedTextSpec)

/-- ITS FALSE NEIGHBOUR: 'it returns false'. Refute it at one input. -/
def fnStringAcceptsQuotedTextWrong : ChangeSpec := { name := "fnStringAcceptsQuotedText", fn := fun _ => fun
  | [d1, d2, d3, d4] => { results := [.lit (.bool false)], args := [d1, d2, d3, d4] }
  | _ => none }
def FnStringAcceptsQuotedTextWrongFalsely : Prop := fnStringAcceptsQuotedTextRow.holds Try.pinned (OpenSpec.ofChange fnStringAcceptsQuotedTextWrong)

end Rows
end Go.Proofs.Qxb6617742a
