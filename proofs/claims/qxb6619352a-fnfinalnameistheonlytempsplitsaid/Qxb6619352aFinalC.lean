/-
  FnFinalNameIsTheOnlyTempSplit: tempSplit: where the text splits; where it does not.
-/
import Derived.Test.Qxb6619352aFinalA
namespace Go.Proofs.Qxb6619352a
open Go.ChangeShapes Go.WideShapes Go.ChangeAt Go.RowKit

set_option maxHeartbeats 1000000 in
theorem split_yes (s : ByteArray) (w : World) (hs : s.size ≤ maxLen) (d : Nat) (h : Split s d) :
    Calls Try.prog 7 #[.string s] w fun e w' => e = .returned (.tuple #[.string (s.extract 1 d), .bool true]) ∧ w = w' := by
  obtain ⟨⟨t0, t1, t2, t3, t4, t5⟩, h1, h2, h3, h4⟩ := h
  have hs' : (s.size : Int) ≤ 9223372036854775807 := by unfold maxLen at hs; omega
  have hl : (8 : Int) ≤ (s.size : Int) := by omega
  have q0 : 0 < s.size := by omega
  have q1 : s.size - 4 < s.size := by omega
  have q2 : s.size - 3 < s.size := by omega
  have q3 : s.size - 2 < s.size := by omega
  have q4 : s.size - 1 < s.size := by omega
  have e0 : (((s[0]'q0).toNat : Int) != 46) = false := by rw [bne_eq_false_iff_eq, byte_eq]; omega
  have e1 : (((s[s.size - 4]'q1).toNat : Int) != 46) = false := by rw [bne_eq_false_iff_eq, byte_eq]; omega
  have e2 : (((s[s.size - 3]'q2).toNat : Int) != 116) = false := by rw [bne_eq_false_iff_eq, byte_eq]; omega
  have e3 : (((s[s.size - 2]'q3).toNat : Int) != 109) = false := by rw [bne_eq_false_iff_eq, byte_eq]; omega
  have e4 : (((s[s.size - 1]'q4).toNat : Int) != 112) = false := by rw [bne_eq_false_iff_eq, byte_eq]; omega
  have H3 : Hid (byte s d = 46) := h3
  have H4 : Hid (∀ i, d < i → i < s.size - 4 → byte s i ≠ 46) := h4
  clear h3 h4 t1 t2 t3 t4 t5
  go_enter Try.func7, Try.ntmps7
  go_wp2
  go_loop [5] (fun i => ∃ k : Nat, 2 ≤ k ∧ k ≤ d ∧ i = .int .i64 k) (fun i => s.size - (intOf i).toNat)
  case atStart => exact ⟨2, by omega, h1, rfl⟩
  case round =>
    obtain ⟨k, hk0, hk, rfl⟩ := hrel
    clear e0 e1 e2 e3 e4
    have hlt : k < s.size := by omega
    have hle : (k : Int) + 6 ≤ (s.size : Int) := by omega
    by_cases hb : byte s k = 46
    · have he : (((s[k]'hlt).toNat : Int) == 46) = true := by rw [beq_iff_eq, byte_eq]; omega
      clear hb
      have hz : (s.extract (k + 1) (s.size - 4)).size = s.size - 4 - (k + 1) := size_cut _ _ _ (by omega)
      by_cases e : k = d
      · have c9 := hasDot_no (s.extract (k + 1) (s.size - 4)) w (by omega) (fun i hi => by rw [byte_cut _ _ _ _ (by omega)]; exact H4.out _ (by omega) (by omega))
        have He : Hid (k = d) := e
        clear e hz
        go_wp2_with (go_at_call 9; refine c9.mono ?_; rintro e w' ⟨rfl, hw⟩; subst hw)
        go_ret2
        exact ⟨by rw [← He.out]; rfl, rfl⟩
      · have c9 := hasDot_yes (s.extract (k + 1) (s.size - 4)) w (by omega) (d - (k + 1)) (by omega) (by rw [byte_cut _ _ _ _ (by omega), show k + 1 + (d - (k + 1)) = d by omega]; exact H3.out)
        clear hz
        go_wp2_with (go_at_call 9; refine c9.mono ?_; rintro e w' ⟨rfl, hw⟩; subst hw)
        go_round
        case rel => exact ⟨k + 1, by omega, by omega, by go_num⟩
        case measure => simp [intOf]; omega
    · have he : (((s[k]'hlt).toNat : Int) == 46) = false := by rw [beq_eq_false_iff_ne, byte_eq]; omega
      have hne : k ≠ d := fun e => hb (by rw [e]; exact H3.out)
      clear hb
      go_wp2
      go_round
      case rel => exact ⟨k + 1, by omega, by omega, by go_num⟩
      case measure => simp [intOf]; omega

/-- A text that is of the temporary kind and has no splitting place. -/
theorem split_none (s : ByteArray) (w : World) (hs : s.size ≤ maxLen) (hbig : s.size ≤ 1048576) (hT : Temp s) (h : ∀ d, ¬ Split s d) :
    Calls Try.prog 7 #[.string s] w fun e w' => e = .returned (.tuple #[.string { data := #[] }, .bool false]) ∧ w = w' := by
  have hT' := hT
  obtain ⟨t0, t1, t2, t3, t4, t5⟩ := hT
  have hs' : (s.size : Int) ≤ 9223372036854775807 := by unfold maxLen at hs; omega
  have hl : (4 : Int) ≤ (s.size : Int) := by omega
  have q0 : 0 < s.size := by omega
  have q1 : s.size - 4 < s.size := by omega
  have q2 : s.size - 3 < s.size := by omega
  have q3 : s.size - 2 < s.size := by omega
  have q4 : s.size - 1 < s.size := by omega
  have e0 : (((s[0]'q0).toNat : Int) != 46) = false := by rw [bne_eq_false_iff_eq, byte_eq]; omega
  have e1 : (((s[s.size - 4]'q1).toNat : Int) != 46) = false := by rw [bne_eq_false_iff_eq, byte_eq]; omega
  have e2 : (((s[s.size - 3]'q2).toNat : Int) != 116) = false := by rw [bne_eq_false_iff_eq, byte_eq]; omega
  have e3 : (((s[s.size - 2]'q3).toNat : Int) != 109) = false := by rw [bne_eq_false_iff_eq, byte_eq]; omega
  have e4 : (((s[s.size - 1]'q4).toNat : Int) != 112) = false := by rw [bne_eq_false_iff_eq, byte_eq]; omega
  have HN : Hid (∀ k, 2 ≤ k → k + 6 ≤ s.size → byte s k = 46 → ∃ i, k < i ∧ i < s.size - 4 ∧ byte s i = 46) := fun k a1 a2 a3 => Classical.byContradiction fun hne => h k ⟨hT', a1, a2, a3, fun i i1 i2 i3 => hne ⟨i, i1, i2, i3⟩⟩
  clear h hT' t1 t2 t3 t4 t5
  go_enter Try.func7, Try.ntmps7
  go_wp2
  go_loop [5] (fun i => ∃ k : Nat, 2 ≤ k ∧ k ≤ s.size ∧ i = .int .i64 k) (fun i => s.size - (intOf i).toNat)
  case atStart => exact ⟨2, by omega, by omega, rfl⟩
  case round =>
    obtain ⟨k, hk0, hk, rfl⟩ := hrel
    clear e0 e1 e2 e3 e4
    by_cases hle0 : k + 6 ≤ s.size
    · have hlt : k < s.size := by omega
      have hle : (k : Int) + 6 ≤ (s.size : Int) := by omega
      by_cases hb : byte s k = 46
      · have he : (((s[k]'hlt).toNat : Int) == 46) = true := by rw [beq_iff_eq, byte_eq]; omega
        obtain ⟨i, i1, i2, i3⟩ := HN.out k hk0 hle0 hb
        clear hb
        have hz : (s.extract (k + 1) (s.size - 4)).size = s.size - 4 - (k + 1) := size_cut _ _ _ (by omega)
        have c9 := hasDot_yes (s.extract (k + 1) (s.size - 4)) w (by omega) (i - (k + 1)) (by omega) (by rw [byte_cut _ _ _ _ (by omega), show k + 1 + (i - (k + 1)) = i by omega]; exact i3)
        clear hz i3
        go_wp2_with (go_at_call 9; refine c9.mono ?_; rintro e w' ⟨rfl, hw⟩; subst hw)
        go_round
        case rel => exact ⟨k + 1, by omega, by omega, by go_num⟩
        case measure => simp [intOf]; omega
      · have he : (((s[k]'hlt).toNat : Int) == 46) = false := by rw [beq_eq_false_iff_ne, byte_eq]; omega
        clear hb
        go_wp2
        go_round
        case rel => exact ⟨k + 1, by omega, by omega, by go_num⟩
        case measure => simp [intOf]; omega
    · have hle : ¬ (k : Int) + 6 ≤ (s.size : Int) := by omega
      go_wp2
      go_ret2
      exact ⟨rfl, rfl⟩

/-- A text that is not of the temporary kind. -/
theorem split_not (s : ByteArray) (w : World) (hs : s.size ≤ maxLen) (h : ¬ Temp s) :
    Calls Try.prog 7 #[.string s] w fun e w' => e = .returned (.tuple #[.string { data := #[] }, .bool false]) ∧ w = w' := by
  have hs' : (s.size : Int) ≤ 9223372036854775807 := by unfold maxLen at hs; omega
  by_cases h4 : 4 ≤ s.size
  · have hl : (4 : Int) ≤ (s.size : Int) := by omega
    have q0 : 0 < s.size := by omega
    have q1 : s.size - 4 < s.size := by omega
    have q2 : s.size - 3 < s.size := by omega
    have q3 : s.size - 2 < s.size := by omega
    have q4 : s.size - 1 < s.size := by omega
    by_cases t1 : byte s 0 = 46
    · have e0 : (((s[0]'q0).toNat : Int) != 46) = false := by rw [bne_eq_false_iff_eq, byte_eq]; omega
      by_cases t2 : byte s (s.size - 4) = 46
      · have e1 : (((s[s.size - 4]'q1).toNat : Int) != 46) = false := by rw [bne_eq_false_iff_eq, byte_eq]; omega
        by_cases t3 : byte s (s.size - 3) = 116
        · have e2 : (((s[s.size - 3]'q2).toNat : Int) != 116) = false := by rw [bne_eq_false_iff_eq, byte_eq]; omega
          by_cases t4 : byte s (s.size - 2) = 109
          · have e3 : (((s[s.size - 2]'q3).toNat : Int) != 109) = false := by rw [bne_eq_false_iff_eq, byte_eq]; omega
            have t5 : byte s (s.size - 1) ≠ 112 := fun t5 => h ⟨h4, t1, t2, t3, t4, t5⟩
            have e4 : (((s[s.size - 1]'q4).toNat : Int) != 112) = true := by rw [bne_iff_ne, byte_eq]; omega
            clear h t1 t2 t3 t4 t5
            go_enter Try.func7, Try.ntmps7
            go_wp2
            go_ret2
            exact ⟨rfl, rfl⟩
          · have e3 : (((s[s.size - 2]'q3).toNat : Int) != 109) = true := by rw [bne_iff_ne, byte_eq]; omega
            clear h t1 t2 t3 t4
            go_enter Try.func7, Try.ntmps7
            go_wp2
            go_ret2
            exact ⟨rfl, rfl⟩
        · have e2 : (((s[s.size - 3]'q2).toNat : Int) != 116) = true := by rw [bne_iff_ne, byte_eq]; omega
          clear h t1 t2 t3
          go_enter Try.func7, Try.ntmps7
          go_wp2
          go_ret2
          exact ⟨rfl, rfl⟩
      · have e1 : (((s[s.size - 4]'q1).toNat : Int) != 46) = true := by rw [bne_iff_ne, byte_eq]; omega
        clear h t1 t2
        go_enter Try.func7, Try.ntmps7
        go_wp2
        go_ret2
        exact ⟨rfl, rfl⟩
    · have e0 : (((s[0]'q0).toNat : Int) != 46) = true := by rw [bne_iff_ne, byte_eq]; omega
      clear h t1
      go_enter Try.func7, Try.ntmps7
      go_wp2
      go_ret2
      exact ⟨rfl, rfl⟩
  · have hl : (s.size : Int) < 4 := by omega
    clear h
    go_enter Try.func7, Try.ntmps7
    go_wp2
    go_ret2
    exact ⟨rfl, rfl⟩

theorem split_no (s : ByteArray) (w : World) (hs : s.size ≤ maxLen) (hbig : s.size ≤ 1048576) (h : ∀ d, ¬ Split s d) :
    Calls Try.prog 7 #[.string s] w fun e w' => e = .returned (.tuple #[.string { data := #[] }, .bool false]) ∧ w = w' := by
  by_cases hT : Temp s
  · exact split_none s w hs hbig hT h
  · exact split_not s w hs hT
end Go.Proofs.Qxb6619352a
