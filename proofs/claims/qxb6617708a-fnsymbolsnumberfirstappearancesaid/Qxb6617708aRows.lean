/-
  NARROWER THAN 'FOR EVERY INPUT', by the rows' own cells (each row's printed sentence says how): FnSymbolsNumberFirstAppearance: maps.
  DERIVED. THE GIVEN ROWS OF THIS SEAT. 1 by the template 'for every input the law returns true; each argument reads behind the call as it read before'; 0 by the template 'total and deterministic' (their statements: Qxb6617708aTotals.lean).
  GIVEN WITH THE SEED: the statements are not yours to turn. If you find one false, say at which input.
  Laid BY PROGRAM, IN A SANDBOX (cutbox-rows.mjs): the forced cells as the released guide's own fill.sh prints them over the translation 7a0aee87e166a90c… (all of the seat's roots in one cut). By AI agents, Wed Nov 11 2026. No macro, syntax, notation, axiom, sorry.
-/
import Derived.Test.Qxb6617708aChecked
import GoSem.Claim
import GoSem.ClaimJoined
import GoSem.ClaimMapViews
import Derived.JoinedTies
import Derived.KernelRfl
namespace Go.Proofs.Qxb6617708a
/- THE CELL 'sum', in the pinned program and in every row, IS THE sha256 OF THE DUMP (.gsa) THAT Qxb6617708aProg.lean LOADS. Nothing in Lean hashes anything: it is a label: what it is worth is what the hold of that sum in a sandbox is worth. -/
noncomputable def Try.pinned : Pinned := { name := "qxb6617708a", sum := "7a0aee87e166a90c262a8473a82065a9f9fbb469b5f074b6444d566fe6b1ac16", checked := Try.checked }
namespace Rows
def none {H : Type} : Left H := { results := [], args := [] }

/-- 'zzlaws_internal_book_b1.FnSymbolsNumberFirstAppearance': WHATEVER THE INPUT: true; the input reads as it did. -/
def fnSymbolsNumberFirstAppearanceSpec : ChangeSpec := { name := "fnSymbolsNumberFirstAppearance", fn := fun _ => fun
  | [d1, d2, d3] => { results := [.lit (.bool true)], args := [d1, d2, d3] }
  | _ => none }
def fnSymbolsNumberFirstAppearanceRow : OpenClaim := { program := "qxb6617708a", sum := "7a0aee87e166a90c262a8473a82065a9f9fbb469b5f074b6444d566fe6b1ac16", func := "example.com/custodex/custodex/zzlaws_internal_book_b1.FnSymbolsNumberFirstAppearance", spec := "fnSymbolsNumberFirstAppearance", maps := true, apart := false }
def FnSymbolsNumberFirstAppearanceSaid : Prop := fnSymbolsNumberFirstAppearanceRow.holds Try.pinned (OpenSpec.ofChange fnSymbolsNumberFirstAppearanceSpec)

/-- ITS FALSE NEIGHBOUR: 'it returns false'. Refute it at one input. -/
def fnSymbolsNumberFirstAppearanceWrong : ChangeSpec := { name := "fnSymbolsNumberFirstAppearance", fn := fun _ => fun
  | [d1, d2, d3] => { results := [.lit (.bool false)], args := [d1, d2, d3] }
  | _ => none }
def FnSymbolsNumberFirstAppearanceWrongFalsely : Prop := fnSymbolsNumberFirstAppearanceRow.holds Try.pinned (OpenSpec.ofChange fnSymbolsNumberFirstAppearanceWrong)

end Rows
end Go.Proofs.Qxb6617708a
