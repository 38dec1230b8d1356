/-
  FnUpsWriteOwnRegistersApart: the walks: an input out of range; two ids apart; one id twice.
-/
import Derived.Test.Qxb6618986aUpsA
namespace Go.Proofs.Qxb6618986a
open Go.ChangeShapes Go.WideShapes Go.ChangeAt Go.RowKit

set_option maxRecDepth 100000 in
set_option maxHeartbeats 2000000 in
theorem apart_out (n i j reg : Int) (f : Bool) (w : World) (h : ¬ (1 ≤ n ∧ n ≤ 65536 ∧ 1 ≤ i ∧ i ≤ n ∧ 1 ≤ j ∧ j ≤ n ∧ -268435456 ≤ reg ∧ reg ≤ 268435456)) :
    Calls Try.prog 5 #[.int .i64 n, .int .i64 i, .int .i64 j, .int .i64 reg, .bool f] w fun e w' => e = .returned (.bool true) ∧ Below w.heap.size w w' := by
  by_cases h1 : 1 ≤ n ∧ n ≤ 65536
  · obtain ⟨a1, a2⟩ := h1
    by_cases h2 : 1 ≤ i ∧ i ≤ n ∧ 1 ≤ j ∧ j ≤ n
    · obtain ⟨a3, a4, a5, a6⟩ := h2
      rcases (show reg < -268435456 ∨ 268435456 < reg by omega) with h3 | h3
      all_goals
        go_enter Try.func5, Try.ntmps5
        go_wp2_with fail
        go_ret
        exact ⟨rfl, Below.refl _ _⟩
    · rcases (show i < 1 ∨ (1 ≤ i ∧ n < i) ∨ (1 ≤ i ∧ i ≤ n ∧ j < 1) ∨ (1 ≤ i ∧ i ≤ n ∧ 1 ≤ j ∧ n < j) by omega) with h3 | ⟨h3, h4⟩ | ⟨h3, h4, h5⟩ | ⟨h3, h4, h5, h6⟩
      all_goals
        clear h h2
        go_enter Try.func5, Try.ntmps5
        go_wp2_with fail
        go_ret
        exact ⟨rfl, Below.refl _ _⟩
  · rcases (show n < 1 ∨ 65536 < n by omega) with h3 | h3
    all_goals
      clear h h1
      go_enter Try.func5, Try.ntmps5
      go_wp2_with fail
      go_ret
      exact ⟨rfl, Below.refl _ _⟩

set_option maxRecDepth 100000 in
set_option maxHeartbeats 4000000 in
theorem apart_ne (n i j reg : Int) (f : Bool) (w : World) (a1 : 1 ≤ n) (a2 : n ≤ 65536) (a3 : 1 ≤ i) (a4 : i ≤ n) (a5 : 1 ≤ j) (a6 : j ≤ n) (a7 : -268435456 ≤ reg) (a8 : reg ≤ 268435456) (hij : i ≠ j) :
    Calls Try.prog 5 #[.int .i64 n, .int .i64 i, .int .i64 j, .int .i64 reg, .bool f] w fun e w' => e = .returned (.bool true) ∧ Below w.heap.size w w' := by
  have e1 : (reg + (i - 1) == reg + (j - 1)) = false := by rw [beq_eq_false_iff_ne]; omega
  have e2 : (i == j) = false := by rw [beq_eq_false_iff_ne]; omega
  go_enter Try.func5, Try.ntmps5
  go_wp2_with fail
  refine (upsWrite_any _ _ _ _ _ (by omega) (by omega) (by omega) (by omega)).mono ?_
  rintro e w1 ⟨rfl, hb1⟩
  go_wp2_with fail
  refine (upsWrite_any _ _ _ _ _ (by omega) (by omega) (by omega) (by omega)).mono ?_
  rintro e w2 ⟨rfl, hb2'⟩
  have hb2 := hb1.trans (hb2'.mono hb1.size)
  go_wp2_with fail
  refine (upsWrite_any _ _ _ _ _ (by omega) (by omega) (by omega) (by omega)).mono ?_
  rintro e w3 ⟨rfl, hb3'⟩
  have hb3 := hb2.trans (hb3'.mono hb2.size)
  clear hb1 hb2 hb2' hb3'
  go_wp2
  go_ret
  exact ⟨rfl, hb3⟩
set_option maxRecDepth 100000 in
set_option maxHeartbeats 4000000 in
theorem apart_eq (n i reg : Int) (f : Bool) (w : World) (a1 : 1 ≤ n) (a2 : n ≤ 65536) (a3 : 1 ≤ i) (a4 : i ≤ n) (a7 : -268435456 ≤ reg) (a8 : reg ≤ 268435456) :
    Calls Try.prog 5 #[.int .i64 n, .int .i64 i, .int .i64 i, .int .i64 reg, .bool f] w fun e w' => e = .returned (.bool true) ∧ Below w.heap.size w w' := by
  have e1 : (reg + (i - 1) == reg + (i - 1)) = true := by simp
  have e2 : (i == i) = true := by simp
  go_enter Try.func5, Try.ntmps5
  go_wp2_with fail
  refine (upsWrite_any _ _ _ _ _ (by omega) (by omega) (by omega) (by omega)).mono ?_
  rintro e w1 ⟨rfl, hb1⟩
  go_wp2_with fail
  refine (upsWrite_any _ _ _ _ _ (by omega) (by omega) (by omega) (by omega)).mono ?_
  rintro e w2 ⟨rfl, hb2'⟩
  have hb2 := hb1.trans (hb2'.mono hb1.size)
  go_wp2_with fail
  refine (upsWrite_any _ _ _ _ _ (by omega) (by omega) (by omega) (by omega)).mono ?_
  rintro e w3 ⟨rfl, hb3'⟩
  have hb3 := hb2.trans (hb3'.mono hb2.size)
  clear hb1 hb2 hb2' hb3'
  go_wp2
  go_ret
  exact ⟨rfl, hb3⟩
end Go.Proofs.Qxb6618986a
