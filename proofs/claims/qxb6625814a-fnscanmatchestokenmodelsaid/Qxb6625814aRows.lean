/-
  No cell of these rows narrows 'for every input' (looked for: loops, veiled, ifaces, maps, wideKeys, modest, calm, conditions, laid).
  DERIVED. THE GIVEN ROWS OF THIS SEAT. 2 by the template 'for every input the law returns true; each argument reads behind the call as it read before'; 0 by the template 'total and deterministic' (their statements: Qxb6625814aTotals.lean).
  GIVEN WITH THE SEED: the statements are not yours to turn. If you find one false, say at which input.
  Laid BY PROGRAM, IN A SANDBOX (cutbox-rows.mjs): the forced cells as the released guide's own fill.sh prints them over the translation 7a7184e5afac3f84… (all of the seat's roots in one cut). By AI agents, Wed Nov 11 2026. No macro, syntax, notation, axiom, sorry.
-/
import Derived.Test.Qxb6625814aChecked
import GoSem.Claim
import GoSem.ClaimJoined
import GoSem.ClaimMapViews
import Derived.JoinedTies
import Derived.KernelRfl
namespace Go.Proofs.Qxb6625814a
/- THE CELL 'sum', in the pinned program and in every row, IS THE sha256 OF THE DUMP (.gsa) THAT Qxb6625814aProg.lean LOADS. Nothing in Lean hashes anything: it is a label: what it is worth is what the hold of that sum in a sandbox is worth. -/
noncomputable def Try.pinned : Pinned := { name := "qxb6625814a", sum := "7a7184e5afac3f847c858b5edad6fdd1826b855c78852adc75d53f2456173a61", checked := Try.checked }
namespace Rows
def none {H : Type} : Left H := { results := [], args := [] }

/-- 'zzlaws_internal_script_b1.FnScanMatchesTokenModel': WHATEVER THE INPUT: true; the input reads as it did. -/
def fnScanMatchesTokenModelSpec : ChangeSpec := { name := "fnScanMatchesTokenModel", fn := fun _ => fun
  | [d1, d2, d3, d4, d5, d6, d7] => { results := [.lit (.bool true)], args := [d1, d2, d3, d4, d5, d6, d7] }
  | _ => none }
def fnScanMatchesTokenModelRow : OpenClaim := { program := "qxb6625814a", sum := "7a7184e5afac3f847c858b5edad6fdd1826b855c78852adc75d53f2456173a61", func := "example.com/gapwise/gapwise/zzlaws_internal_script_b1.FnScanMatchesTokenModel", spec := "fnScanMatchesTokenModel", inPlace := ["internal/abi.NoEscape"], apart := false }
def FnScanMatchesTokenModelSaid : Prop := fnScanMatchesTokenModelRow.holds Try.pinned (OpenSpec.ofChange fnScanMatchesTokenModelSpec)

/-- ITS FALSE NEIGHBOUR: 'it returns false'. Refute it at one input. -/
def fnScanMatchesTokenModelWrong : ChangeSpec := { name := "fnScanMatchesTokenModel", fn := fun _ => fun
  | [d1, d2, d3, d4, d5, d6, d7] => { results := [.lit (.bool false)], args := [d1, d2, d3, d4, d5, d6, d7] }
  | _ => none }
def FnScanMatchesTokenModelWrongFalsely : Prop := fnScanMatchesTokenModelRow.holds Try.pinned (OpenSpec.ofChange fnScanMatchesTokenModelWrong)

/-- 'zzlaws_internal_script_b1.FnScanLeadingSemicolon': WHATEVER THE INPUT: true; the input reads as it did. -/
def fnScanLeadingSemicolonSpec : ChangeSpec := { name := "fnScanLeadingSemicolon", fn := fun _ => fun
  | [d1, d2, d3, d4, d5, d6, d7] => { results := [.lit (.bool true)], args := [d1, d2, d3, d4, d5, d6, d7] }
  | _ => none }
def fnScanLeadingSemicolonRow : OpenClaim := { program := "qxb6625814a", sum := "7a7184e5afac3f847c858b5edad6fdd1826b855c78852adc75d53f2456173a61", func := "example.com/gapwise/gapwise/zzlaws_internal_script_b1.FnScanLeadingSemicolon", spec := "fnScanLeadingSemicolon", inPlace := ["internal/abi.NoEscape"], apart := false }
def FnScanLeadingSemicolonSaid : Prop := fnScanLeadingSemicolonRow.holds Try.pinned (OpenSpec.ofChange fnScanLeadingSemicolonSpec)

/-- ITS FALSE NEIGHBOUR: 'it returns false'. Refute it at one input. -/
def fnScanLeadingSemicolonWrong : ChangeSpec := { name := "fnScanLeadingSemicolon", fn := fun _ => fun
  | [d1, d2, d3, d4, d5, d6, d7] => { results := [.lit (.bool false)], args := [d1, d2, d3, d4, d5, d6, d7] }
  | _ => none }
def FnScanLeadingSemicolonWrongFalsely : Prop := fnScanLeadingSemicolonRow.holds Try.pinned (OpenSpec.ofChange fnScanLeadingSemicolonWrong)

end Rows
end Go.Proofs.Qxb6625814a
