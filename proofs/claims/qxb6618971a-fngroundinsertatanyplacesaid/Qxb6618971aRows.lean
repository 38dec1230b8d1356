/-
  No cell of these rows narrows 'for every input' (looked for: loops, veiled, ifaces, maps, wideKeys, modest, calm, conditions, laid).
  DERIVED. THE GIVEN ROWS OF THIS SEAT. 4 by the template 'for every input the law returns true; each argument reads behind the call as it read before'; 0 by the template 'total and deterministic' (their statements: Qxb6618971aTotals.lean).
  GIVEN WITH THE SEED: the statements are not yours to turn. If you find one false, say at which input.
  Laid BY PROGRAM, IN A SANDBOX (cutbox-rows.mjs): the forced cells as the released guide's own fill.sh prints them over the translation be12790617aa5751… (all of the seat's roots in one cut). By AI agents, Wed Nov 11 2026. No macro, syntax, notation, axiom, sorry.
-/
import Derived.Test.Qxb6618971aChecked
import GoSem.Claim
import GoSem.ClaimJoined
import GoSem.ClaimMapViews
import Derived.JoinedTies
import Derived.KernelRfl
namespace Go.Proofs.Qxb6618971a
/- THE CELL 'sum', in the pinned program and in every row, IS THE sha256 OF THE DUMP (.gsa) THAT Qxb6618971aProg.lean LOADS. Nothing in Lean hashes anything: it is a label: what it is worth is what the hold of that sum in a sandbox is worth. -/
noncomputable def Try.pinned : Pinned := { name := "qxb6618971a", sum := "be12790617aa575185177fabdf22536b71f4e6aead4b2366385acba2a578ce9e", checked := Try.checked }
namespace Rows
def none {H : Type} : Left H := { results := [], args := [] }

/-- 'zzlaws_rulebook_b1.FnReachedInclusiveMirrorsStrict': WHATEVER THE INPUT: true; the input reads as it did. -/
def fnReachedInclusiveMirrorsStrictSpec : ChangeSpec := { name := "fnReachedInclusiveMirrorsStrict", fn := fun _ => fun
  | [d1, d2] => { results := [.lit (.bool true)], args := [d1, d2] }
  | _ => none }
def fnReachedInclusiveMirrorsStrictRow : OpenClaim := { program := "qxb6618971a", sum := "be12790617aa575185177fabdf22536b71f4e6aead4b2366385acba2a578ce9e", func := "example.com/kindred-ledger/kindred-ledger/zzlaws_rulebook_b1.FnReachedInclusiveMirrorsStrict", spec := "fnReachedInclusiveMirrorsStrict", apart := false }
def FnReachedInclusiveMirrorsStrictSaid : Prop := fnReachedInclusiveMirrorsStrictRow.holds Try.pinned (OpenSpec.ofChange fnReachedInclusiveMirrorsStrictSpec)

/-- ITS FALSE NEIGHBOUR: 'it returns false'. Refute it at one input. -/
def fnReachedInclusiveMirrorsStrictWrong : ChangeSpec := { name := "fnReachedInclusiveMirrorsStrict", fn := fun _ => fun
  | [d1, d2] => { results := [.lit (.bool false)], args := [d1, d2] }
  | _ => none }
def FnReachedInclusiveMirrorsStrictWrongFalsely : Prop := fnReachedInclusiveMirrorsStrictRow.holds Try.pinned (OpenSpec.ofChange fnReachedInclusiveMirrorsStrictWrong)

/-- 'zzlaws_rulebook_b1.FnReachedMonotoneInOrder': WHATEVER THE INPUT: true; the input reads as it did. -/
def fnReachedMonotoneInOrderSpec : ChangeSpec := { name := "fnReachedMonotoneInOrder", fn := fun _ => fun
  | [d1, d2, d3, d4] => { results := [.lit (.bool true)], args := [d1, d2, d3, d4] }
  | _ => none }
def fnReachedMonotoneInOrderRow : OpenClaim := { program := "qxb6618971a", sum := "be12790617aa575185177fabdf22536b71f4e6aead4b2366385acba2a578ce9e", func := "example.com/kindred-ledger/kindred-ledger/zzlaws_rulebook_b1.FnReachedMonotoneInOrder", spec := "fnReachedMonotoneInOrder", apart := false }
def FnReachedMonotoneInOrderSaid : Prop := fnReachedMonotoneInOrderRow.holds Try.pinned (OpenSpec.ofChange fnReachedMonotoneInOrderSpec)

/-- ITS FALSE NEIGHBOUR: 'it returns false'. Refute it at one input. -/
def fnReachedMonotoneInOrderWrong : ChangeSpec := { name := "fnReachedMonotoneInOrder", fn := fun _ => fun
  | [d1, d2, d3, d4] => { results := [.lit (.bool false)], args := [d1, d2, d3, d4] }
  | _ => none }
def FnReachedMonotoneInOrderWrongFalsely : Prop := fnReachedMonotoneInOrderRow.holds Try.pinned (OpenSpec.ofChange fnReachedMonotoneInOrderWrong)

/-- 'zzlaws_rulebook_b1.FnGroundJoinAtAnyCut': WHATEVER THE INPUT: true; the input reads as it did. -/
def fnGroundJoinAtAnyCutSpec : ChangeSpec := { name := "fnGroundJoinAtAnyCut", fn := fun _ => fun
  | [d1, d2, d3] => { results := [.lit (.bool true)], args := [d1, d2, d3] }
  | _ => none }
def fnGroundJoinAtAnyCutRow : OpenClaim := { program := "qxb6618971a", sum := "be12790617aa575185177fabdf22536b71f4e6aead4b2366385acba2a578ce9e", func := "example.com/kindred-ledger/kindred-ledger/zzlaws_rulebook_b1.FnGroundJoinAtAnyCut", spec := "fnGroundJoinAtAnyCut", unfollowed := true, recurses := true, apart := false }
def FnGroundJoinAtAnyCutSaid : Prop := fnGroundJoinAtAnyCutRow.holds Try.pinned (OpenSpec.ofChange fnGroundJoinAtAnyCutSpec)

/-- ITS FALSE NEIGHBOUR: 'it returns false'. Refute it at one input. -/
def fnGroundJoinAtAnyCutWrong : ChangeSpec := { name := "fnGroundJoinAtAnyCut", fn := fun _ => fun
  | [d1, d2, d3] => { results := [.lit (.bool false)], args := [d1, d2, d3] }
  | _ => none }
def FnGroundJoinAtAnyCutWrongFalsely : Prop := fnGroundJoinAtAnyCutRow.holds Try.pinned (OpenSpec.ofChange fnGroundJoinAtAnyCutWrong)

/-- 'zzlaws_rulebook_b1.FnGroundInsertAtAnyPlace': WHATEVER THE INPUT: true; the input reads as it did. -/
def fnGroundInsertAtAnyPlaceSpec : ChangeSpec := { name := "fnGroundInsertAtAnyPlace", fn := fun _ => fun
  | [d1, d2, d3, d4] => { results := [.lit (.bool true)], args := [d1, d2, d3, d4] }
  | _ => none }
def fnGroundInsertAtAnyPlaceRow : OpenClaim := { program := "qxb6618971a", sum := "be12790617aa575185177fabdf22536b71f4e6aead4b2366385acba2a578ce9e", func := "example.com/kindred-ledger/kindred-ledger/zzlaws_rulebook_b1.FnGroundInsertAtAnyPlace", spec := "fnGroundInsertAtAnyPlace", unfollowed := true, recurses := true, apart := false }
def FnGroundInsertAtAnyPlaceSaid : Prop := fnGroundInsertAtAnyPlaceRow.holds Try.pinned (OpenSpec.ofChange fnGroundInsertAtAnyPlaceSpec)

/-- ITS FALSE NEIGHBOUR: 'it returns false'. Refute it at one input. -/
def fnGroundInsertAtAnyPlaceWrong : ChangeSpec := { name := "fnGroundInsertAtAnyPlace", fn := fun _ => fun
  | [d1, d2, d3, d4] => { results := [.lit (.bool false)], args := [d1, d2, d3, d4] }
  | _ => none }
def FnGroundInsertAtAnyPlaceWrongFalsely : Prop := fnGroundInsertAtAnyPlaceRow.holds Try.pinned (OpenSpec.ofChange fnGroundInsertAtAnyPlaceWrong)

end Rows
end Go.Proofs.Qxb6618971a
