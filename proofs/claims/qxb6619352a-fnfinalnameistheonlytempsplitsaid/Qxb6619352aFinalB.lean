/-
  The two FinalName laws: atomicfile.FinalName: where the text splits; where it does not.
-/
import Derived.Test.Qxb6619352aFinalA
namespace Go.Proofs.Qxb6619352a
open Go.ChangeShapes Go.WideShapes Go.ChangeAt Go.RowKit

set_option maxHeartbeats 400000 in
theorem final_yes (s : ByteArray) (w : World) (hs : s.size ≤ maxLen) (d : Nat) (h : Split s d) :
    Calls Try.prog 6 #[.string s] w fun e w' => e = .returned (.tuple #[.string (s.extract 1 d), .bool true]) ∧ w = w' := by
  obtain ⟨hT, h1, h2, h3, h4⟩ := h
  obtain ⟨d, rfl⟩ : ∃ d', d = d' + 1 := ⟨d - 1, by omega⟩
  have hz : (s.extract 1 (s.size - 4)).size = s.size - 5 := by rw [size_cut _ _ _ (by omega)]; omega
  have c10 := isTemp_yes s w hs hT
  have c11 := lastDot_yes (s.extract 1 (s.size - 4)) w (by omega) d (by omega) (by rw [byte_cut _ _ _ _ (by omega), Nat.add_comm]; exact h3) (fun i hi hi' => by rw [byte_cut _ _ _ _ (by omega)]; exact h4 (1 + i) (by omega) (by omega))
  have hcut := cut_cut s 1 (s.size - 4) d (by omega) (by omega)
  rw [Nat.add_comm 1 d] at hcut
  have Hcut : Hid ((s.extract 1 (s.size - 4)).extract 0 d = s.extract 1 (d + 1)) := hcut
  have hs' : (s.size : Int) ≤ 9223372036854775807 := by unfold maxLen at hs; omega
  have hl : (8 : Int) ≤ (s.size : Int) := by omega
  have z1 : d + 2 ≤ (s.extract 1 (s.size - 4)).size := by omega
  have z2 : (s.extract 1 (s.size - 4)).size ≤ maxLen := by omega
  unfold maxLen at z2
  have he : ((d : Int) == ((s.extract 1 (s.size - 4)).size : Int) - 1) = false := by rw [beq_eq_false_iff_ne]; omega
  clear hT h3 h4 hcut hz
  go_enter Try.func6, Try.ntmps6
  go_wp2_with (go_at_call 10; refine c10.mono ?_; rintro e w' ⟨rfl, hw⟩; subst hw)
  generalize hnm : s.extract 1 (s.size - 4) = nm at *
  have Hnm : Hid (s.extract 1 (s.size - 4) = nm) := hnm
  clear hnm
  refine c11.mono ?_
  rintro e w' ⟨rfl, hw⟩
  subst hw
  go_wp2
  go_ret2
  exact ⟨by rw [Hcut.out]; rfl, rfl⟩

/-- Of the first n places either none is a dot, or there is a last. -/
theorem last_or_none (s : ByteArray) (n : Nat) : (∀ j, j < n → byte s j ≠ 46) ∨ ∃ m, m < n ∧ byte s m = 46 ∧ ∀ j, m < j → j < n → byte s j ≠ 46 := by
  induction n with
  | zero => exact Or.inl fun j hj => absurd hj (Nat.not_lt_zero _)
  | succ n ih =>
    by_cases hp : byte s n = 46
    · exact Or.inr ⟨n, Nat.lt_succ_self _, hp, fun j h1 h2 => by omega⟩
    · rcases ih with h | ⟨m, h1, h2, h3⟩
      · refine Or.inl fun j hj => ?_
        rcases Nat.lt_succ_iff_lt_or_eq.1 hj with h' | rfl
        · exact h j h'
        · exact hp
      · refine Or.inr ⟨m, by omega, h2, fun j hj hj' => ?_⟩
        rcases Nat.lt_succ_iff_lt_or_eq.1 hj' with h' | rfl
        · exact h3 j hj h'
        · exact hp

set_option maxHeartbeats 1000000 in
theorem final_none (s : ByteArray) (w : World) (hs : s.size ≤ maxLen) (h5' : (6 : Int) ≤ (s.size : Int)) (hT : Temp s) (m : Int) (c11 : Calls Try.prog 11 #[.string (s.extract 1 (s.size - 4)), .int .u8 46] w fun e w' => e = .returned (.int .i64 m) ∧ w = w') (hm : m ≤ 0) :
    Calls Try.prog 6 #[.string s] w fun e w' => e = .returned (.tuple #[.string { data := #[] }, .bool false]) ∧ w = w' := by
  have hs' : (s.size : Int) ≤ 9223372036854775807 := by unfold maxLen at hs; omega
  have c10 := isTemp_yes s w hs hT
  clear hT
  go_enter Try.func6, Try.ntmps6
  go_wp2_with (go_at_call 10; refine c10.mono ?_; rintro e w' ⟨rfl, hw⟩; subst hw)
  generalize hnm : s.extract 1 (s.size - 4) = nm at *
  clear hnm
  refine c11.mono ?_
  rintro e w' ⟨rfl, hw⟩
  subst hw
  go_wp2
  go_ret2
  exact ⟨rfl, rfl⟩

set_option maxHeartbeats 1000000 in
theorem final_end (s : ByteArray) (w : World) (hs : s.size ≤ maxLen) (h5' : (6 : Int) ≤ (s.size : Int)) (hT : Temp s) (m : Nat) (c11 : Calls Try.prog 11 #[.string (s.extract 1 (s.size - 4)), .int .u8 46] w fun e w' => e = .returned (.int .i64 m) ∧ w = w') (hm : m + 1 = (s.extract 1 (s.size - 4)).size) :
    Calls Try.prog 6 #[.string s] w fun e w' => e = .returned (.tuple #[.string { data := #[] }, .bool false]) ∧ w = w' := by
  have hs' : (s.size : Int) ≤ 9223372036854775807 := by unfold maxLen at hs; omega
  have c10 := isTemp_yes s w hs hT
  have z2 : (s.extract 1 (s.size - 4)).size ≤ s.size := by rw [size_cut _ _ _ (by omega)]; omega
  have he : ((m : Int) == ((s.extract 1 (s.size - 4)).size : Int) - 1) = true := by rw [beq_iff_eq]; omega
  clear hT hm
  go_enter Try.func6, Try.ntmps6
  go_wp2_with (go_at_call 10; refine c10.mono ?_; rintro e w' ⟨rfl, hw⟩; subst hw)
  generalize hnm : s.extract 1 (s.size - 4) = nm at *
  clear hnm
  refine c11.mono ?_
  rintro e w' ⟨rfl, hw⟩
  subst hw
  go_wp2
  all_goals
    go_ret2
    exact ⟨rfl, rfl⟩

set_option maxHeartbeats 1000000 in
theorem final_no (s : ByteArray) (w : World) (hs : s.size ≤ maxLen) (h : ∀ d, ¬ Split s d) :
    Calls Try.prog 6 #[.string s] w fun e w' => e = .returned (.tuple #[.string { data := #[] }, .bool false]) ∧ w = w' := by
  have hs' : (s.size : Int) ≤ 9223372036854775807 := by unfold maxLen at hs; omega
  by_cases h5 : s.size ≤ 5
  · have h5' : (s.size : Int) ≤ 5 := by omega
    clear h
    go_enter Try.func6, Try.ntmps6
    go_wp2
    go_ret2
    exact ⟨rfl, rfl⟩
  · have h5' : (6 : Int) ≤ (s.size : Int) := by omega
    by_cases hT : Temp s
    · have hz : (s.extract 1 (s.size - 4)).size = s.size - 5 := by rw [size_cut _ _ _ (by omega)]; omega
      have z2 : (s.extract 1 (s.size - 4)).size ≤ maxLen := by omega
      rcases last_or_none (s.extract 1 (s.size - 4)) (s.extract 1 (s.size - 4)).size with hn | ⟨m, m1, m2, m3⟩
      · exact final_none s w hs h5' hT (-1) (lastDot_no (s.extract 1 (s.size - 4)) w z2 hn) (by omega)
      · have c11 := lastDot_yes (s.extract 1 (s.size - 4)) w z2 m m1 m2 m3
        have hor : m = 0 ∨ m + 1 = (s.extract 1 (s.size - 4)).size := by
          rcases Nat.eq_zero_or_pos m with e | e
          · exact Or.inl e
          · right
            rcases Nat.lt_or_ge (m + 1) (s.extract 1 (s.size - 4)).size with hlt | hge
            · exact absurd ⟨hT, by omega, by omega, by rw [byte_cut _ _ _ _ (by omega), Nat.add_comm] at m2; exact m2, fun i hi hi' => by
                have := m3 (i - 1) (by omega) (by omega)
                rwa [byte_cut _ _ _ _ (by omega), show 1 + (i - 1) = i by omega] at this⟩ (h (m + 1))
            · omega
        rcases hor with hm | hm
        · exact final_none s w hs h5' hT m c11 (by omega)
        · exact final_end s w hs h5' hT m c11 hm
    · have c10 := isTemp_no s w hs (by omega) hT
      clear h hT
      go_enter Try.func6, Try.ntmps6
      go_wp2_with (go_at_call 10; refine c10.mono ?_; rintro e w' ⟨rfl, hw⟩; subst hw)
      go_ret2
      exact ⟨rfl, rfl⟩
end Go.Proofs.Qxb6619352a
