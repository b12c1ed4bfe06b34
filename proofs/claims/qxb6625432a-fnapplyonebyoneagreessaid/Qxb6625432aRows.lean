/-
  No cell of these rows narrows 'for every input' (looked for: loops, veiled, ifaces, maps, wideKeys, modest, calm, conditions, laid).
  DERIVED. THE GIVEN ROWS OF THIS SEAT. 2 by the template 'for every input the law returns true; each argument reads behind the call as it read before'; 0 by the template 'total and deterministic' (their statements: Qxb6625432aTotals.lean).
  GIVEN WITH THE SEED: the statements are not yours to turn. If you find one false, say at which input.
  Laid BY PROGRAM, IN A SANDBOX (cutbox-rows.mjs): the forced cells as the released guide's own fill.sh prints them over the translation b0b6757c7ea3591a… (all of the seat's roots in one cut). By AI agents, Wed Nov 11 2026. No macro, syntax, notation, axiom, sorry.
-/
import Derived.Test.Qxb6625432aChecked
import GoSem.Claim
import GoSem.ClaimJoined
import GoSem.ClaimMapViews
import Derived.JoinedTies
import Derived.KernelRfl
namespace Go.Proofs.Qxb6625432a
/- THE CELL 'sum', in the pinned program and in every row, IS THE sha256 OF THE DUMP (.gsa) THAT Qxb6625432aProg.lean LOADS. Nothing in Lean hashes anything: it is a label: what it is worth is what the hold of that sum in a sandbox is worth. -/
noncomputable def Try.pinned : Pinned := { name := "qxb6625432a", sum := "b0b6757c7ea3591aa38eb05494d21d7b15010fc9711815b3b251973b8e75ac4f", checked := Try.checked }
namespace Rows
def none {H : Type} : Left H := { results := [], args := [] }

/-- 'zzlaws_postgres_b1.FnApplySplitsAtAnyCut': WHATEVER THE INPUT: true; the input reads as it did. -/
def fnApplySplitsAtAnyCutSpec : ChangeSpec := { name := "fnApplySplitsAtAnyCut", fn := fun _ => fun
  | [d1, d2, d3, d4] => { results := [.lit (.bool true)], args := [d1, d2, d3, d4] }
  | _ => none }
def fnApplySplitsAtAnyCutRow : OpenClaim := { program := "qxb6625432a", sum := "b0b6757c7ea3591aa38eb05494d21d7b15010fc9711815b3b251973b8e75ac4f", func := "example.com/unhurried-courier/unhurried-courier/zzlaws_postgres_b1.FnApplySplitsAtAnyCut", spec := "fnApplySplitsAtAnyCut", unfollowed := true, recurses := true, apart := false }
def FnApplySplitsAtAnyCutSaid : Prop := fnApplySplitsAtAnyCutRow.holds Try.pinned (OpenSpec.ofChange fnApplySplitsAtAnyCutSpec)

/-- ITS FALSE NEIGHBOUR: 'it returns false'. Refute it at one input. -/
def fnApplySplitsAtAnyCutWrong : ChangeSpec := { name := "fnApplySplitsAtAnyCut", fn := fun _ => fun
  | [d1, d2, d3, d4] => { results := [.lit (.bool false)], args := [d1, d2, d3, d4] }
  | _ => none }
def FnApplySplitsAtAnyCutWrongFalsely : Prop := fnApplySplitsAtAnyCutRow.holds Try.pinned (OpenSpec.ofChange fnApplySplitsAtAnyCutWrong)

/-- 'zzlaws_postgres_b1.FnApplyOneByOneAgrees': WHATEVER THE INPUT: true; the input reads as it did. -/
def fnApplyOneByOneAgreesSpec : ChangeSpec := { name := "fnApplyOneByOneAgrees", fn := fun _ => fun
  | [d1, d2, d3] => { results := [.lit (.bool true)], args := [d1, d2, d3] }
  | _ => none }
def fnApplyOneByOneAgreesRow : OpenClaim := { program := "qxb6625432a", sum := "b0b6757c7ea3591aa38eb05494d21d7b15010fc9711815b3b251973b8e75ac4f", func := "example.com/unhurried-courier/unhurried-courier/zzlaws_postgres_b1.FnApplyOneByOneAgrees", spec := "fnApplyOneByOneAgrees", unfollowed := true, recurses := true, apart := false }
def FnApplyOneByOneAgreesSaid : Prop := fnApplyOneByOneAgreesRow.holds Try.pinned (OpenSpec.ofChange fnApplyOneByOneAgreesSpec)

/-- ITS FALSE NEIGHBOUR: 'it returns false'. Refute it at one input. -/
def fnApplyOneByOneAgreesWrong : ChangeSpec := { name := "fnApplyOneByOneAgrees", fn := fun _ => fun
  | [d1, d2, d3] => { results := [.lit (.bool false)], args := [d1, d2, d3] }
  | _ => none }
def FnApplyOneByOneAgreesWrongFalsely : Prop := fnApplyOneByOneAgreesRow.holds Try.pinned (OpenSpec.ofChange fnApplyOneByOneAgreesWrong)

end Rows
end Go.Proofs.Qxb6625432a
