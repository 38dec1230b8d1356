/-
  FnUpsWriteRegistersFollowIdsAndArray: the walks: an input out of range; one in range.
-/
import Derived.Test.Qxb6618986aUpsA
namespace Go.Proofs.Qxb6618986a
open Go.ChangeShapes Go.WideShapes Go.ChangeAt Go.RowKit

set_option maxRecDepth 100000 in
set_option maxHeartbeats 2000000 in
theorem follow_out (n i j reg d : Int) (f : Bool) (w : World) (h : ¬ (1 ≤ n ∧ n ≤ 65536 ∧ 1 ≤ i ∧ i ≤ n ∧ 1 ≤ j ∧ j ≤ n ∧ -268435456 ≤ reg ∧ reg ≤ 268435456 ∧ -268435456 ≤ d ∧ d ≤ 268435456)) :
    Calls Try.prog 6 #[.int .i64 n, .int .i64 i, .int .i64 j, .int .i64 reg, .int .i64 d, .bool f] w fun e w' => e = .returned (.bool true) ∧ Below w.heap.size w w' := by
  by_cases h1 : 1 ≤ n ∧ n ≤ 65536
  · obtain ⟨a1, a2⟩ := h1
    by_cases h2 : 1 ≤ i ∧ i ≤ n ∧ 1 ≤ j ∧ j ≤ n
    · obtain ⟨a3, a4, a5, a6⟩ := h2
      rcases (show reg < -268435456 ∨ 268435456 < reg ∨ (-268435456 ≤ reg ∧ reg ≤ 268435456 ∧ d < -268435456) ∨ (-268435456 ≤ reg ∧ reg ≤ 268435456 ∧ 268435456 < d) by omega) with h3 | h3 | ⟨h3, h4, h5⟩ | ⟨h3, h4, h5⟩
      all_goals
        clear h
        go_enter Try.func6, Try.ntmps6
        go_wp2_with fail
        go_ret
        exact ⟨rfl, Below.refl _ _⟩
    · rcases (show i < 1 ∨ (1 ≤ i ∧ n < i) ∨ (1 ≤ i ∧ i ≤ n ∧ j < 1) ∨ (1 ≤ i ∧ i ≤ n ∧ 1 ≤ j ∧ n < j) by omega) with h3 | ⟨h3, h4⟩ | ⟨h3, h4, h5⟩ | ⟨h3, h4, h5, h6⟩
      all_goals
        clear h h2
        go_enter Try.func6, Try.ntmps6
        go_wp2_with fail
        go_ret
        exact ⟨rfl, Below.refl _ _⟩
  · rcases (show n < 1 ∨ 65536 < n by omega) with h3 | h3
    all_goals
      clear h h1
      go_enter Try.func6, Try.ntmps6
      go_wp2_with fail
      go_ret
      exact ⟨rfl, Below.refl _ _⟩

set_option maxRecDepth 100000 in
set_option maxHeartbeats 4000000 in
theorem follow_in (n i j reg d : Int) (f : Bool) (w : World) (a1 : 1 ≤ n) (a2 : n ≤ 65536) (a3 : 1 ≤ i) (a4 : i ≤ n) (a5 : 1 ≤ j) (a6 : j ≤ n) (a7 : -268435456 ≤ reg) (a8 : reg ≤ 268435456) (a9 : -268435456 ≤ d) (a10 : d ≤ 268435456) :
    Calls Try.prog 6 #[.int .i64 n, .int .i64 i, .int .i64 j, .int .i64 reg, .int .i64 d, .bool f] w fun e w' => e = .returned (.bool true) ∧ Below w.heap.size w w' := by
  have e1 : (reg + (i - 1) - (reg + (j - 1)) == i - j) = true := by rw [beq_iff_eq]; omega
  have e2 : (reg + d + (i - 1) == reg + (i - 1) + d) = true := by rw [beq_iff_eq]; omega
  go_enter Try.func6, Try.ntmps6
  go_wp2_with fail
  refine (upsWrite_any _ _ _ _ _ (by omega) (by omega) (by omega) (by omega)).mono ?_
  rintro e w1 ⟨rfl, hb1⟩
  go_wp2_with fail
  refine (upsWrite_any _ _ _ _ _ (by omega) (by omega) (by omega) (by omega)).mono ?_
  rintro e w2 ⟨rfl, hb2'⟩
  have hb2 := hb1.trans (hb2'.mono hb1.size)
  go_wp2_with fail
  refine (upsWrite_any _ _ _ _ _ (by omega) (by omega) (by omega) (by omega)).mono ?_
  rintro e w3 ⟨rfl, hb3'⟩
  have hb3 := hb2.trans (hb3'.mono hb2.size)
  clear hb1 hb2 hb2' hb3'
  go_wp2
  go_ret
  exact ⟨rfl, hb3⟩
end Go.Proofs.Qxb6618986a
