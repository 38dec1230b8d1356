/-
  No cell of these rows narrows 'for every input' (looked for: loops, veiled, ifaces, maps, wideKeys, modest, calm, conditions, laid).
  DERIVED. THE GIVEN ROWS OF THIS SEAT. 2 by the template 'for every input the law returns true; each argument reads behind the call as it read before'; 0 by the template 'total and deterministic' (their statements: Qxb6619352aTotals.lean).
  GIVEN WITH THE SEED: the statements are not yours to turn. If you find one false, say at which input.
  Laid BY PROGRAM, IN A SANDBOX (cutbox-rows.mjs): the forced cells as the released guide's own fill.sh prints them over the translation 3b322cd6b8883dff… (all of the seat's roots in one cut). By AI agents, Wed Nov 11 2026. No macro, syntax, notation, axiom, sorry.
-/
import Derived.Test.Qxb6619352aChecked
import GoSem.Claim
import GoSem.ClaimJoined
import GoSem.ClaimMapViews
import Derived.JoinedTies
import Derived.KernelRfl
namespace Go.Proofs.Qxb6619352a
/- THE CELL 'sum', in the pinned program and in every row, IS THE sha256 OF THE DUMP (.gsa) THAT Qxb6619352aProg.lean LOADS. Nothing in Lean hashes anything: it is a label: what it is worth is what the hold of that sum in a sandbox is worth. -/
noncomputable def Try.pinned : Pinned := { name := "qxb6619352a", sum := "3b322cd6b8883dff4d73b1c6a14edaaef42ee858803e88091a46543a2ecf8513", checked := Try.checked }
namespace Rows
def none {H : Type} : Left H := { results := [], args := [] }

/-- 'zzlaws_internal_atomicfile_b1.FnFinalNameIsTheOnlyTempSplit': WHATEVER THE INPUT: true; the input reads as it did. -/
def fnFinalNameIsTheOnlyTempSplitSpec : ChangeSpec := { name := "fnFinalNameIsTheOnlyTempSplit", fn := fun _ => fun
  | [d1, d2] => { results := [.lit (.bool true)], args := [d1, d2] }
  | _ => none }
def fnFinalNameIsTheOnlyTempSplitRow : OpenClaim := { program := "qxb6619352a", sum := "3b322cd6b8883dff4d73b1c6a14edaaef42ee858803e88091a46543a2ecf8513", func := "example.com/ingot/ingot/zzlaws_internal_atomicfile_b1.FnFinalNameIsTheOnlyTempSplit", spec := "fnFinalNameIsTheOnlyTempSplit", apart := false }
def FnFinalNameIsTheOnlyTempSplitSaid : Prop := fnFinalNameIsTheOnlyTempSplitRow.holds Try.pinned (OpenSpec.ofChange fnFinalNameIsTheOnlyTempSplitSpec)

/-- ITS FALSE NEIGHBOUR: 'it returns false'. Refute it at one input. -/
def fnFinalNameIsTheOnlyTempSplitWrong : ChangeSpec := { name := "fnFinalNameIsTheOnlyTempSplit", fn := fun _ => fun
  | [d1, d2] => { results := [.lit (.bool false)], args := [d1, d2] }
  | _ => none }
def FnFinalNameIsTheOnlyTempSplitWrongFalsely : Prop := fnFinalNameIsTheOnlyTempSplitRow.holds Try.pinned (OpenSpec.ofChange fnFinalNameIsTheOnlyTempSplitWrong)

/-- 'zzlaws_internal_atomicfile_b1.FnFinalNameRecoversNameFromTempForm': WHATEVER THE INPUT: true; the input reads as it did. -/
def fnFinalNameRecoversNameFromTempFormSpec : ChangeSpec := { name := "fnFinalNameRecoversNameFromTempForm", fn := fun _ => fun
  | [d1, d2] => { results := [.lit (.bool true)], args := [d1, d2] }
  | _ => none }
def fnFinalNameRecoversNameFromTempFormRow : OpenClaim := { program := "qxb6619352a", sum := "3b322cd6b8883dff4d73b1c6a14edaaef42ee858803e88091a46543a2ecf8513", func := "example.com/ingot/ingot/zzlaws_internal_atomicfile_b1.FnFinalNameRecoversNameFromTempForm", spec := "fnFinalNameRecoversNameFromTempForm", apart := false }
def FnFinalNameRecoversNameFromTempFormSaid : Prop := fnFinalNameRecoversNameFromTempFormRow.holds Try.pinned (OpenSpec.ofChange fnFinalNameRecoversNameFromTempFormSpec)

/-- ITS FALSE NEIGHBOUR: 'it returns false'. Refute it at one input. -/
def fnFinalNameRecoversNameFromTempFormWrong : ChangeSpec := { name := "fnFinalNameRecoversNameFromTempForm", fn := fun _ => fun
  | [d1, d2] => { results := [.lit (.bool false)], args := [d1, d2] }
  | _ => none }
def FnFinalNameRecoversNameFromTempFormWrongFalsely : Prop := fnFinalNameRecoversNameFromTempFormRow.holds Try.pinned (OpenSpec.ofChange fnFinalNameRecoversNameFromTempFormWrong)

end Rows
end Go.Proofs.Qxb6619352a
