/-
  No cell of these rows narrows 'for every input' (looked for: loops, veiled, ifaces, maps, wideKeys, modest, calm, conditions, laid).
  DERIVED. THE GIVEN ROWS OF THIS SEAT. 2 by the template 'for every input the law returns true; each argument reads behind the call as it read before'; 0 by the template 'total and deterministic' (their statements: Qxb6625863aTotals.lean).
  GIVEN WITH THE SEED: the statements are not yours to turn. If you find one false, say at which input.
  Laid BY PROGRAM, IN A SANDBOX (cutbox-rows.mjs): the forced cells as the released guide's own fill.sh prints them over the translation 96de70a8ca020594… (all of the seat's roots in one cut). By AI agents, Wed Nov 11 2026. No macro, syntax, notation, axiom, sorry.
-/
import Derived.Test.Qxb6625863aChecked
import GoSem.Claim
import GoSem.ClaimJoined
import GoSem.ClaimMapViews
import Derived.JoinedTies
import Derived.KernelRfl
namespace Go.Proofs.Qxb6625863a
/- THE CELL 'sum', in the pinned program and in every row, IS THE sha256 OF THE DUMP (.gsa) THAT Qxb6625863aProg.lean LOADS. Nothing in Lean hashes anything: it is a label: what it is worth is what the hold of that sum in a sandbox is worth. -/
noncomputable def Try.pinned : Pinned := { name := "qxb6625863a", sum := "96de70a8ca020594686b1e2f9899130ce4a161adcf167e94ada0b4d8b30b4d14", checked := Try.checked }
namespace Rows
def none {H : Type} : Left H := { results := [], args := [] }

/-- 'zzlaws_internal_api_b1.FnSplitListMatchesTokenModel': WHATEVER THE INPUT: true; the input reads as it did. -/
def fnSplitListMatchesTokenModelSpec : ChangeSpec := { name := "fnSplitListMatchesTokenModel", fn := fun _ => fun
  | [d] => { results := [.lit (.bool true)], args := [d] }
  | _ => none }
def fnSplitListMatchesTokenModelRow : OpenClaim := { program := "qxb6625863a", sum := "96de70a8ca020594686b1e2f9899130ce4a161adcf167e94ada0b4d8b30b4d14", func := "example.com/vesseld/vesseld/zzlaws_internal_api_b1.FnSplitListMatchesTokenModel", spec := "fnSplitListMatchesTokenModel", apart := false }
def FnSplitListMatchesTokenModelSaid : Prop := fnSplitListMatchesTokenModelRow.holds Try.pinned (OpenSpec.ofChange fnSplitListMatchesTokenModelSpec)

/-- ITS FALSE NEIGHBOUR: 'it returns false'. Refute it at one input. -/
def fnSplitListMatchesTokenModelWrong : ChangeSpec := { name := "fnSplitListMatchesTokenModel", fn := fun _ => fun
  | [d] => { results := [.lit (.bool false)], args := [d] }
  | _ => none }
def FnSplitListMatchesTokenModelWrongFalsely : Prop := fnSplitListMatchesTokenModelRow.holds Try.pinned (OpenSpec.ofChange fnSplitListMatchesTokenModelWrong)

/-- 'zzlaws_internal_api_b1.FnSplitListConcatAtOpenComma': WHATEVER THE INPUT: true; the input reads as it did. -/
def fnSplitListConcatAtOpenCommaSpec : ChangeSpec := { name := "fnSplitListConcatAtOpenComma", fn := fun _ => fun
  | [d1, d2] => { results := [.lit (.bool true)], args := [d1, d2] }
  | _ => none }
def fnSplitListConcatAtOpenCommaRow : OpenClaim := { program := "qxb6625863a", sum := "96de70a8ca020594686b1e2f9899130ce4a161adcf167e94ada0b4d8b30b4d14", func := "example.com/vesseld/vesseld/zzlaws_internal_api_b1.FnSplitListConcatAtOpenComma", spec := "fnSplitListConcatAtOpenComma", apart := false }
def FnSplitListConcatAtOpenCommaSaid : Prop := fnSplitListConcatAtOpenCommaRow.holds Try.pinned (OpenSpec.ofChange fnSplitListConcatAtOpenCommaSpec)

/-- ITS FALSE NEIGHBOUR: 'it returns false'. Refute it at one input. -/
def fnSplitListConcatAtOpenCommaWrong : ChangeSpec := { name := "fnSplitListConcatAtOpenComma", fn := fun _ => fun
  | [d1, d2] => { results := [.lit (.bool false)], args := [d1, d2] }
  | _ => none }
def FnSplitListConcatAtOpenCommaWrongFalsely : Prop := fnSplitListConcatAtOpenCommaRow.holds Try.pinned (OpenSpec.ofChange fnSplitListConcatAtOpenCommaWrong)

end Rows
end Go.Proofs.Qxb6625863a
