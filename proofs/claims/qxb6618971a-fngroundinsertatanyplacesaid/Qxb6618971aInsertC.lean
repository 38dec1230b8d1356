/-
  FnGroundInsertAtAnyPlace: the walk where p is no place of the list.
-/
import Derived.Test.Qxb6618971aInsertA
namespace Go.Proofs.Qxb6618971a
open Go.ChangeShapes Go.WideShapes Go.ChangeAt Go.RowKit

set_option maxRecDepth 100000 in
set_option maxHeartbeats 4000000 in
theorem insert_out (A : Option Addr) (n cap : Nat) (Z : Nat → Gr) (p : Int) (I : Gr) (q : ByteArray) (w : World) (hn : n * 72 ≤ 140737488351232) (hp : p < 0 ∨ (n : Int) < p) (hq : q.size ≤ maxLen) (hG : GsAt w A n Z) (hI : I.ok) (hIR : RelAt w I.a I.n) :
    Calls Try.prog 6 #[.slice A n cap, .int .i64 p, .agg #[.string I.c, .string I.l, .string I.e, .slice I.a I.n I.cap], .string q] w fun en w' => en = .returned (.bool true) ∧ Below w.heap.size w w' := by
  have hn1 : n ≤ maxLen := by unfold maxLen; omega
  have hq' : (q.size : Int) ≤ 9223372036854775807 := by unfold maxLen at hq; omega
  have hb0 := Joins.below_alloc1 w (.cells #[.string I.c, .string I.l, .string I.e, .slice I.a I.n I.cap] 58)
  have c14 := bytesInsert_any A n cap Z p I.c I.l I.e I.a I.n I.cap q _ hn1 hq hI.1 hI.2.1 hI.2.2.1 hI.2.2.2 (hG.below hb0) (hIR.below hb0)
  have HG : Hid (GsAt w A n Z) := hG
  have HI : Hid (I.ok ∧ RelAt w I.a I.n) := ⟨hI, hIR⟩
  clear hG hI hIR hb0
  rcases hp with hp | hp
  all_goals
    go_enter Try.func6, Try.ntmps6
    go_wp2_with (first | (go_at_call 14; refine c14.mono ?_; rintro e w1 ⟨⟨r, rfl⟩, hb1⟩; obtain ⟨hb, hz1, y1, y2, y3, y4⟩ := after_ins (g := I) hb1; clear hb1 c14) | (go_at_call 15; refine (addGround_any _ _ _ _ _ _ _ _ (by omega) (by omega) HI.out.1.1 HI.out.1.2.1 HI.out.1.2.2.1 HI.out.1.2.2.2 (HI.out.2.below hb)).mono ?_; rintro e w2 ⟨r, rfl, r0, r1, hb2⟩) | (go_at_call 10; refine (addLen_any _ _ _ (by omega) (by omega) (by omega) (by omega)).mono ?_; rintro e w' ⟨r', rfl, r0', r1', hw⟩; have hw' := hw.symm; subst hw') | (go_at_call 9; refine (groundsBytes_any _ _ _ _ Z _ r0' r1' hn1 (HG.out.below (hb.trans (hb2.mono hb.size)))).mono ?_; rintro e w3 ⟨r3, rfl, r03, r13, hb3⟩))
    all_goals (go_ret; first | exact ⟨rfl, hb⟩ | exact ⟨rfl, (hb.trans (hb2.mono hb.size)).trans (hb3.mono (hb.trans (hb2.mono hb.size)).size)⟩)
end Go.Proofs.Qxb6618971a
