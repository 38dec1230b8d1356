/-
  The two FinalName laws: hasDot, strings.LastIndexByte at a dot, IsTemporary: contracts.
-/
import Derived.Test.Qxb6619352aProg
import Derived.Test.Qxb6619352aFinalPlain
import Derived.WalkKit
import Derived.ProofKit
import Derived.Outline
import Derived.WalkSpells
namespace Go.Proofs.Qxb6619352a
open Go.ChangeShapes Go.WideShapes Go.ChangeAt Go.RowKit

set_option maxHeartbeats 400000 in
theorem hasDot_no (s : ByteArray) (w : World) (hs : s.size ≤ maxLen) (h : ∀ i, i < s.size → byte s i ≠ 46) :
    Calls Try.prog 9 #[.string s] w fun e w' => e = .returned (.bool false) ∧ w = w' := by
  unfold maxLen at hs
  have H : Hid (∀ i, i < s.size → byte s i ≠ 46) := h
  clear h
  go_enter Try.func9, Try.ntmps9
  go_wp2
  go_loop [3] (fun i => ∃ k : Nat, k ≤ s.size ∧ i = .int .i64 k) (fun i => s.size - (intOf i).toNat)
  case atStart => exact ⟨0, Nat.zero_le _, rfl⟩
  case round =>
    obtain ⟨k, hk, rfl⟩ := hrel
    by_cases hlt : k < s.size
    · have he : (((s[k]'hlt).toNat : Int) == 46) = false := by rw [beq_eq_false_iff_ne, byte_eq]; have := H.out k hlt; omega
      go_wp2
      go_round
      case rel => exact ⟨k + 1, by omega, by go_num⟩
      case measure => simp [intOf]; omega
    · go_wp2
      go_ret
      exact ⟨rfl, rfl⟩

set_option maxHeartbeats 400000 in
theorem hasDot_yes (s : ByteArray) (w : World) (hs : s.size ≤ maxLen) (d : Nat) (hd : d < s.size) (h : byte s d = 46) :
    Calls Try.prog 9 #[.string s] w fun e w' => e = .returned (.bool true) ∧ w = w' := by
  unfold maxLen at hs
  have H : Hid (byte s d = 46) := h
  clear h
  go_enter Try.func9, Try.ntmps9
  go_wp2
  go_loop [3] (fun i => ∃ k : Nat, k ≤ d ∧ i = .int .i64 k) (fun i => s.size - (intOf i).toNat)
  case atStart => exact ⟨0, Nat.zero_le _, rfl⟩
  case round =>
    obtain ⟨k, hk, rfl⟩ := hrel
    have hlt : k < s.size := by omega
    by_cases hb : byte s k = 46
    · have he : (((s[k]'hlt).toNat : Int) == 46) = true := by rw [beq_iff_eq, byte_eq]; omega
      clear hb
      go_wp2
      go_ret
      exact ⟨rfl, rfl⟩
    · have he : (((s[k]'hlt).toNat : Int) == 46) = false := by rw [beq_eq_false_iff_ne, byte_eq]; omega
      have hne : k ≠ d := fun e => hb (by rw [e]; exact H.out)
      clear hb
      go_wp2
      go_round
      case rel => exact ⟨k + 1, by omega, by go_num⟩
      case measure => simp [intOf]; omega

set_option maxHeartbeats 400000 in
theorem lastDot_yes (s : ByteArray) (w : World) (hs : s.size ≤ maxLen) (d : Nat) (hd : d < s.size) (h : byte s d = 46) (hn : ∀ i, d < i → i < s.size → byte s i ≠ 46) :
    Calls Try.prog 11 #[.string s, .int .u8 46] w fun e w' => e = .returned (.int .i64 d) ∧ w = w' := by
  unfold maxLen at hs
  have H : Hid (byte s d = 46) := h
  have HN : Hid (∀ i, d < i → i < s.size → byte s i ≠ 46) := hn
  clear h hn
  go_enter Try.func11, Try.ntmps11
  go_wp2
  go_loop [5] (fun i => ∃ k : Nat, d ≤ k ∧ k < s.size ∧ i = .int .i64 k) (fun i => (intOf i).toNat)
  case atStart => exact ⟨s.size - 1, by omega, by omega, by go_num⟩
  case round =>
    obtain ⟨k, hk, hlt, rfl⟩ := hrel
    by_cases e : k = d
    · have he : (((s[k]'hlt).toNat : Int) == 46) = true := by rw [beq_iff_eq, byte_eq, e, H.out]; rfl
      have Hk : Hid (k = d) := e
      clear e
      go_wp2
      go_ret
      exact ⟨by rw [← Hk.out]; rfl, rfl⟩
    · have he : (((s[k]'hlt).toNat : Int) == 46) = false := by rw [beq_eq_false_iff_ne, byte_eq]; have := HN.out k (by omega) hlt; omega
      go_wp2
      go_round
      case rel => exact ⟨k - 1, by omega, by omega, by go_num⟩
      case measure => simp [intOf]; omega

set_option maxHeartbeats 400000 in
theorem lastDot_no (s : ByteArray) (w : World) (hs : s.size ≤ maxLen) (hn : ∀ i, i < s.size → byte s i ≠ 46) :
    Calls Try.prog 11 #[.string s, .int .u8 46] w fun e w' => e = .returned (.int .i64 (-1)) ∧ w = w' := by
  unfold maxLen at hs
  have HN : Hid (∀ i, i < s.size → byte s i ≠ 46) := hn
  clear hn
  go_enter Try.func11, Try.ntmps11
  go_wp2
  go_loop [5] (fun i => ∃ k : Nat, k ≤ s.size ∧ i = .int .i64 ((k : Int) - 1)) (fun i => (intOf i + 1).toNat)
  case atStart => exact ⟨s.size, by omega, rfl⟩
  case round =>
    obtain ⟨k, hk, rfl⟩ := hrel
    cases k with
    | zero =>
      go_wp2
      go_ret
      exact ⟨rfl, rfl⟩
    | succ k =>
      have hlt : k < s.size := by omega
      have he : (((s[k]'hlt).toNat : Int) == 46) = false := by rw [beq_eq_false_iff_ne, byte_eq]; have := HN.out k hlt; omega
      have ek : (((k + 1 : Nat) : Int) - 1) = (k : Int) := by omega
      rw [ek]
      go_wp2
      go_round
      case rel => exact ⟨k, by omega, by go_num⟩
      case measure => simp [intOf]

set_option maxHeartbeats 400000 in
theorem isTemp_yes (s : ByteArray) (w : World) (hs : s.size ≤ maxLen) (h : Temp s) :
    Calls Try.prog 10 #[.string s] w fun e w' => e = .returned (.bool true) ∧ w = w' := by
  unfold maxLen at hs
  obtain ⟨h1, h2, h3⟩ := h
  have e1 : ((s.extract 0 1).toList == [46]) = true := by rw [head_dot s (by omega)]; simp [h2]
  have e2 : ((s.extract (s.size - 4) s.size).toList == [46, 116, 109, 112]) = true := by rw [tail_tmp s h1]; simp [h3]
  have h1' : (4 : Int) ≤ (s.size : Int) := by omega
  clear h2 h3
  go_enter Try.func10, Try.ntmps10
  go_wp2
  go_ret
  exact ⟨rfl, rfl⟩

set_option maxHeartbeats 400000 in
theorem isTemp_no (s : ByteArray) (w : World) (hs : s.size ≤ maxLen) (h4 : 4 ≤ s.size) (h : ¬ Temp s) :
    Calls Try.prog 10 #[.string s] w fun e w' => e = .returned (.bool false) ∧ w = w' := by
  unfold maxLen at hs
  have h1' : (4 : Int) ≤ (s.size : Int) := by omega
  by_cases h0 : byte s 0 = 46
  · have e1 : ((s.extract 0 1).toList == [46]) = true := by rw [head_dot s (by omega)]; simp [h0]
    have e2 : ((s.extract (s.size - 4) s.size).toList == [46, 116, 109, 112]) = false := by
      rw [tail_tmp s h4]
      apply decide_eq_false
      exact fun h' => h ⟨h4, h0, h'⟩
    clear h h0
    go_enter Try.func10, Try.ntmps10
    go_wp2
    go_ret
    exact ⟨rfl, rfl⟩
  · have e1 : ((s.extract 0 1).toList == [46]) = false := by rw [head_dot s (by omega)]; simp [h0]
    clear h h0
    go_enter Try.func10, Try.ntmps10
    go_wp2
    go_ret
    exact ⟨rfl, rfl⟩
end Go.Proofs.Qxb6619352a
