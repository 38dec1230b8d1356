/-
  No cell of these rows narrows 'for every input' (looked for: loops, veiled, ifaces, maps, wideKeys, modest, calm, conditions, laid).
  DERIVED. THE GIVEN ROWS OF THIS SEAT. 6 by the template 'for every input the law returns true; each argument reads behind the call as it read before'; 0 by the template 'total and deterministic' (their statements: Qxb6618986aTotals.lean).
  GIVEN WITH THE SEED: the statements are not yours to turn. If you find one false, say at which input.
  Laid BY PROGRAM, IN A SANDBOX (cutbox-rows.mjs): the forced cells as the released guide's own fill.sh prints them over the translation 298ecdecdb81b6b6… (all of the seat's roots in one cut). By AI agents, Wed Nov 11 2026. No macro, syntax, notation, axiom, sorry.
-/
import Derived.Test.Qxb6618986aChecked
import GoSem.Claim
import GoSem.ClaimJoined
import GoSem.ClaimMapViews
import Derived.JoinedTies
import Derived.KernelRfl
namespace Go.Proofs.Qxb6618986a
/- THE CELL 'sum', in the pinned program and in every row, IS THE sha256 OF THE DUMP (.gsa) THAT Qxb6618986aProg.lean LOADS. Nothing in Lean hashes anything: it is a label: what it is worth is what the hold of that sum in a sandbox is worth. -/
noncomputable def Try.pinned : Pinned := { name := "qxb6618986a", sum := "298ecdecdb81b6b620507867d25d6a5bf1c31ae43e958533e1983310e0f60a7b", checked := Try.checked }
namespace Rows
def none {H : Type} : Left H := { results := [], args := [] }

/-- 'zzlaws_protocol_b1.FnPollerKeySeparatesExactly': WHATEVER THE INPUT: true; the input reads as it did. -/
def fnPollerKeySeparatesExactlySpec : ChangeSpec := { name := "fnPollerKeySeparatesExactly", fn := fun _ => fun
  | [d1, d2, d3, d4, d5, d6] => { results := [.lit (.bool true)], args := [d1, d2, d3, d4, d5, d6] }
  | _ => none }
def fnPollerKeySeparatesExactlyRow : OpenClaim := { program := "qxb6618986a", sum := "298ecdecdb81b6b620507867d25d6a5bf1c31ae43e958533e1983310e0f60a7b", func := "example.com/kappaset/kappaset/zzlaws_protocol_b1.FnPollerKeySeparatesExactly", spec := "fnPollerKeySeparatesExactly", apart := false }
def FnPollerKeySeparatesExactlySaid : Prop := fnPollerKeySeparatesExactlyRow.holds Try.pinned (OpenSpec.ofChange fnPollerKeySeparatesExactlySpec)

/-- ITS FALSE NEIGHBOUR: 'it returns false'. Refute it at one input. -/
def fnPollerKeySeparatesExactlyWrong : ChangeSpec := { name := "fnPollerKeySeparatesExactly", fn := fun _ => fun
  | [d1, d2, d3, d4, d5, d6] => { results := [.lit (.bool false)], args := [d1, d2, d3, d4, d5, d6] }
  | _ => none }
def FnPollerKeySeparatesExactlyWrongFalsely : Prop := fnPollerKeySeparatesExactlyRow.holds Try.pinned (OpenSpec.ofChange fnPollerKeySeparatesExactlyWrong)

/-- 'zzlaws_protocol_b1.FnPollerKeyAfterAnyPrefix': WHATEVER THE INPUT: true; the input reads as it did. -/
def fnPollerKeyAfterAnyPrefixSpec : ChangeSpec := { name := "fnPollerKeyAfterAnyPrefix", fn := fun _ => fun
  | [d1, d2, d3, d4] => { results := [.lit (.bool true)], args := [d1, d2, d3, d4] }
  | _ => none }
def fnPollerKeyAfterAnyPrefixRow : OpenClaim := { program := "qxb6618986a", sum := "298ecdecdb81b6b620507867d25d6a5bf1c31ae43e958533e1983310e0f60a7b", func := "example.com/kappaset/kappaset/zzlaws_protocol_b1.FnPollerKeyAfterAnyPrefix", spec := "fnPollerKeyAfterAnyPrefix", apart := false }
def FnPollerKeyAfterAnyPrefixSaid : Prop := fnPollerKeyAfterAnyPrefixRow.holds Try.pinned (OpenSpec.ofChange fnPollerKeyAfterAnyPrefixSpec)

/-- ITS FALSE NEIGHBOUR: 'it returns false'. Refute it at one input. -/
def fnPollerKeyAfterAnyPrefixWrong : ChangeSpec := { name := "fnPollerKeyAfterAnyPrefix", fn := fun _ => fun
  | [d1, d2, d3, d4] => { results := [.lit (.bool false)], args := [d1, d2, d3, d4] }
  | _ => none }
def FnPollerKeyAfterAnyPrefixWrongFalsely : Prop := fnPollerKeyAfterAnyPrefixRow.holds Try.pinned (OpenSpec.ofChange fnPollerKeyAfterAnyPrefixWrong)

/-- 'zzlaws_protocol_b1.FnUpsWriteOwnRegistersApart': WHATEVER THE INPUT: true; the input reads as it did. -/
def fnUpsWriteOwnRegistersApartSpec : ChangeSpec := { name := "fnUpsWriteOwnRegistersApart", fn := fun _ => fun
  | [d1, d2, d3, d4, d5] => { results := [.lit (.bool true)], args := [d1, d2, d3, d4, d5] }
  | _ => none }
def fnUpsWriteOwnRegistersApartRow : OpenClaim := { program := "qxb6618986a", sum := "298ecdecdb81b6b620507867d25d6a5bf1c31ae43e958533e1983310e0f60a7b", func := "example.com/kappaset/kappaset/zzlaws_protocol_b1.FnUpsWriteOwnRegistersApart", spec := "fnUpsWriteOwnRegistersApart", apart := false }
def FnUpsWriteOwnRegistersApartSaid : Prop := fnUpsWriteOwnRegistersApartRow.holds Try.pinned (OpenSpec.ofChange fnUpsWriteOwnRegistersApartSpec)

/-- ITS FALSE NEIGHBOUR: 'it returns false'. Refute it at one input. -/
def fnUpsWriteOwnRegistersApartWrong : ChangeSpec := { name := "fnUpsWriteOwnRegistersApart", fn := fun _ => fun
  | [d1, d2, d3, d4, d5] => { results := [.lit (.bool false)], args := [d1, d2, d3, d4, d5] }
  | _ => none }
def FnUpsWriteOwnRegistersApartWrongFalsely : Prop := fnUpsWriteOwnRegistersApartRow.holds Try.pinned (OpenSpec.ofChange fnUpsWriteOwnRegistersApartWrong)

/-- 'zzlaws_protocol_b1.FnUpsWriteRegistersFollowIdsAndArray': WHATEVER THE INPUT: true; the input reads as it did. -/
def fnUpsWriteRegistersFollowIdsAndArraySpec : ChangeSpec := { name := "fnUpsWriteRegistersFollowIdsAndArray", fn := fun _ => fun
  | [d1, d2, d3, d4, d5, d6] => { results := [.lit (.bool true)], args := [d1, d2, d3, d4, d5, d6] }
  | _ => none }
def fnUpsWriteRegistersFollowIdsAndArrayRow : OpenClaim := { program := "qxb6618986a", sum := "298ecdecdb81b6b620507867d25d6a5bf1c31ae43e958533e1983310e0f60a7b", func := "example.com/kappaset/kappaset/zzlaws_protocol_b1.FnUpsWriteRegistersFollowIdsAndArray", spec := "fnUpsWriteRegistersFollowIdsAndArray", apart := false }
def FnUpsWriteRegistersFollowIdsAndArraySaid : Prop := fnUpsWriteRegistersFollowIdsAndArrayRow.holds Try.pinned (OpenSpec.ofChange fnUpsWriteRegistersFollowIdsAndArraySpec)

/-- ITS FALSE NEIGHBOUR: 'it returns false'. Refute it at one input. -/
def fnUpsWriteRegistersFollowIdsAndArrayWrong : ChangeSpec := { name := "fnUpsWriteRegistersFollowIdsAndArray", fn := fun _ => fun
  | [d1, d2, d3, d4, d5, d6] => { results := [.lit (.bool false)], args := [d1, d2, d3, d4, d5, d6] }
  | _ => none }
def FnUpsWriteRegistersFollowIdsAndArrayWrongFalsely : Prop := fnUpsWriteRegistersFollowIdsAndArrayRow.holds Try.pinned (OpenSpec.ofChange fnUpsWriteRegistersFollowIdsAndArrayWrong)

/-- 'zzlaws_protocol_b1.FnMKSDecidedKeyTellsApartWhatItReads': WHATEVER THE INPUT: true; the input reads as it did. -/
def fnMKSDecidedKeyTellsApartWhatItReadsSpec : ChangeSpec := { name := "fnMKSDecidedKeyTellsApartWhatItReads", fn := fun _ => fun
  | [d1, d2, d3, d4, d5, d6, d7, d8, d9, d10, d11, d12] => { results := [.lit (.bool true)], args := [d1, d2, d3, d4, d5, d6, d7, d8, d9, d10, d11, d12] }
  | _ => none }
def fnMKSDecidedKeyTellsApartWhatItReadsRow : OpenClaim := { program := "qxb6618986a", sum := "298ecdecdb81b6b620507867d25d6a5bf1c31ae43e958533e1983310e0f60a7b", func := "example.com/kappaset/kappaset/zzlaws_protocol_b1.FnMKSDecidedKeyTellsApartWhatItReads", spec := "fnMKSDecidedKeyTellsApartWhatItReads", apart := false }
def FnMKSDecidedKeyTellsApartWhatItReadsSaid : Prop := fnMKSDecidedKeyTellsApartWhatItReadsRow.holds Try.pinned (OpenSpec.ofChange fnMKSDecidedKeyTellsApartWhatItReadsSpec)

/-- ITS FALSE NEIGHBOUR: 'it returns false'. Refute it at one input. -/
def fnMKSDecidedKeyTellsApartWhatItReadsWrong : ChangeSpec := { name := "fnMKSDecidedKeyTellsApartWhatItReads", fn := fun _ => fun
  | [d1, d2, d3, d4, d5, d6, d7, d8, d9, d10, d11, d12] => { results := [.lit (.bool false)], args := [d1, d2, d3, d4, d5, d6, d7, d8, d9, d10, d11, d12] }
  | _ => none }
def FnMKSDecidedKeyTellsApartWhatItReadsWrongFalsely : Prop := fnMKSDecidedKeyTellsApartWhatItReadsRow.holds Try.pinned (OpenSpec.ofChange fnMKSDecidedKeyTellsApartWhatItReadsWrong)

/-- 'zzlaws_protocol_b1.FnMKSDecidedKeyOneInstanceMore': WHATEVER THE INPUT: true; the input reads as it did. -/
def fnMKSDecidedKeyOneInstanceMoreSpec : ChangeSpec := { name := "fnMKSDecidedKeyOneInstanceMore", fn := fun _ => fun
  | [d1, d2, d3, d4, d5, d6, d7, d8] => { results := [.lit (.bool true)], args := [d1, d2, d3, d4, d5, d6, d7, d8] }
  | _ => none }
def fnMKSDecidedKeyOneInstanceMoreRow : OpenClaim := { program := "qxb6618986a", sum := "298ecdecdb81b6b620507867d25d6a5bf1c31ae43e958533e1983310e0f60a7b", func := "example.com/kappaset/kappaset/zzlaws_protocol_b1.FnMKSDecidedKeyOneInstanceMore", spec := "fnMKSDecidedKeyOneInstanceMore", apart := false }
def FnMKSDecidedKeyOneInstanceMoreSaid : Prop := fnMKSDecidedKeyOneInstanceMoreRow.holds Try.pinned (OpenSpec.ofChange fnMKSDecidedKeyOneInstanceMoreSpec)

/-- ITS FALSE NEIGHBOUR: 'it returns false'. Refute it at one input. -/
def fnMKSDecidedKeyOneInstanceMoreWrong : ChangeSpec := { name := "fnMKSDecidedKeyOneInstanceMore", fn := fun _ => fun
  | [d1, d2, d3, d4, d5, d6, d7, d8] => { results := [.lit (.bool false)], args := [d1, d2, d3, d4, d5, d6, d7, d8] }
  | _ => none }
def FnMKSDecidedKeyOneInstanceMoreWrongFalsely : Prop := fnMKSDecidedKeyOneInstanceMoreRow.holds Try.pinned (OpenSpec.ofChange fnMKSDecidedKeyOneInstanceMoreWrong)

end Rows
end Go.Proofs.Qxb6618986a
