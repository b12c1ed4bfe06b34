/-
  No cell of these rows narrows 'for every input' (looked for: loops, veiled, ifaces, maps, wideKeys, modest, calm, conditions, laid).
  DERIVED. THE GIVEN ROWS OF THIS SEAT. 2 by the template 'for every input the law returns true; each argument reads behind the call as it read before'; 0 by the template 'total and deterministic' (their statements: Qxb6625633aTotals.lean).
  GIVEN WITH THE SEED: the statements are not yours to turn. If you find one false, say at which input.
  Laid BY PROGRAM, IN A SANDBOX (cutbox-rows.mjs): the forced cells as the released guide's own fill.sh prints them over the translation c3138c7ff1ecc3df… (all of the seat's roots in one cut). By AI agents, Wed Nov 11 2026. No macro, syntax, notation, axiom, sorry.
-/
import Derived.Test.Qxb6625633aChecked
import GoSem.Claim
import GoSem.ClaimJoined
import GoSem.ClaimMapViews
import Derived.JoinedTies
import Derived.KernelRfl
namespace Go.Proofs.Qxb6625633a
/- THE CELL 'sum', in the pinned program and in every row, IS THE sha256 OF THE DUMP (.gsa) THAT Qxb6625633aProg.lean LOADS. Nothing in Lean hashes anything: it is a label: what it is worth is what the hold of that sum in a sandbox is worth. -/
noncomputable def Try.pinned : Pinned := { name := "qxb6625633a", sum := "c3138c7ff1ecc3dffbac21550b41ee14ce26ab02376ae7515974058c43ed5e99", checked := Try.checked }
namespace Rows
def none {H : Type} : Left H := { results := [], args := [] }

/-- 'zzlaws_root_b1.FnSetTagRoundTripRestores': WHATEVER THE INPUT: true; the input reads as it did. -/
def fnSetTagRoundTripRestoresSpec : ChangeSpec := { name := "fnSetTagRoundTripRestores", fn := fun _ => fun
  | [d1, d2, d3, d4] => { results := [.lit (.bool true)], args := [d1, d2, d3, d4] }
  | _ => none }
def fnSetTagRoundTripRestoresRow : OpenClaim := { program := "qxb6625633a", sum := "c3138c7ff1ecc3dffbac21550b41ee14ce26ab02376ae7515974058c43ed5e99", func := "example.com/rangekeeper/rangekeeper/zzlaws_root_b1.FnSetTagRoundTripRestores", spec := "fnSetTagRoundTripRestores", unfollowed := true, recurses := true, apart := false }
def FnSetTagRoundTripRestoresSaid : Prop := fnSetTagRoundTripRestoresRow.holds Try.pinned (OpenSpec.ofChange fnSetTagRoundTripRestoresSpec)

/-- ITS FALSE NEIGHBOUR: 'it returns false'. Refute it at one input. -/
def fnSetTagRoundTripRestoresWrong : ChangeSpec := { name := "fnSetTagRoundTripRestores", fn := fun _ => fun
  | [d1, d2, d3, d4] => { results := [.lit (.bool false)], args := [d1, d2, d3, d4] }
  | _ => none }
def FnSetTagRoundTripRestoresWrongFalsely : Prop := fnSetTagRoundTripRestoresRow.holds Try.pinned (OpenSpec.ofChange fnSetTagRoundTripRestoresWrong)

/-- 'zzlaws_root_b1.FnSetTagScriptMatchesModel': WHATEVER THE INPUT: true; the input reads as it did. -/
def fnSetTagScriptMatchesModelSpec : ChangeSpec := { name := "fnSetTagScriptMatchesModel", fn := fun _ => fun
  | [d1, d2, d3] => { results := [.lit (.bool true)], args := [d1, d2, d3] }
  | _ => none }
def fnSetTagScriptMatchesModelRow : OpenClaim := { program := "qxb6625633a", sum := "c3138c7ff1ecc3dffbac21550b41ee14ce26ab02376ae7515974058c43ed5e99", func := "example.com/rangekeeper/rangekeeper/zzlaws_root_b1.FnSetTagScriptMatchesModel", spec := "fnSetTagScriptMatchesModel", unfollowed := true, recurses := true, apart := false }
def FnSetTagScriptMatchesModelSaid : Prop := fnSetTagScriptMatchesModelRow.holds Try.pinned (OpenSpec.ofChange fnSetTagScriptMatchesModelSpec)

/-- ITS FALSE NEIGHBOUR: 'it returns false'. Refute it at one input. -/
def fnSetTagScriptMatchesModelWrong : ChangeSpec := { name := "fnSetTagScriptMatchesModel", fn := fun _ => fun
  | [d1, d2, d3] => { results := [.lit (.bool false)], args := [d1, d2, d3] }
  | _ => none }
def FnSetTagScriptMatchesModelWrongFalsely : Prop := fnSetTagScriptMatchesModelRow.holds Try.pinned (OpenSpec.ofChange fnSetTagScriptMatchesModelWrong)

end Rows
end Go.Proofs.Qxb6625633a
