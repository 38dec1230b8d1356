/-
  The two FinalName laws: plain laws on the bytes of strings: no Go in sight.
-/
import Derived.Lib.Strings
import Derived.Lib.SmallJoins
namespace Go.Proofs.Qxb6619352a

/-- Byte i of s as a number (0 beyond its end). -/
def byte (s : ByteArray) (i : Nat) : Nat := (s.data.toList.getD i 0).toNat

theorem byte_eq (s : ByteArray) (i : Nat) (h : i < s.size) : (s[i]'h).toNat = byte s i := by
  unfold byte
  have h' : i < s.data.toList.length := by simpa using h
  rw [List.getD, List.getElem?_eq_getElem h']
  rfl

theorem size_len (s : ByteArray) : s.size = s.data.toList.length := Lib.size_eq s

theorem eq_of_bytes {x y : ByteArray} (hs : x.size = y.size) (h : ∀ i, i < x.size → byte x i = byte y i) : x = y := by
  have e : x.data.toList = y.data.toList := by
    apply List.ext_getElem
    · rw [← size_len, ← size_len]; exact hs
    · intro i h1 h2
      have := h i (by rw [size_len]; exact h1)
      unfold byte at this
      rw [List.getD, List.getD, List.getElem?_eq_getElem h1, List.getElem?_eq_getElem h2] at this
      exact UInt8.toNat_inj.1 this
  cases x; cases y
  simp at e
  rw [e]

theorem size_cut (s : ByteArray) (a b : Nat) (h : b ≤ s.size) : (s.extract a b).size = b - a := by
  rw [size_len, Lib.extract_data, List.length_take, List.length_drop, ← size_len]
  omega

theorem byte_cut (s : ByteArray) (a b i : Nat) (hi : a + i < b) : byte (s.extract a b) i = byte s (a + i) := by
  unfold byte
  rw [Lib.extract_data, List.getD, List.getD, List.getElem?_take, if_pos (by omega), List.getElem?_drop]

theorem size_add (a b : ByteArray) : (a ++ b).size = a.size + b.size := by
  rw [size_len, Joins.data_append, List.length_append, ← size_len, ← size_len]

theorem byte_left (a b : ByteArray) (i : Nat) (h : i < a.size) : byte (a ++ b) i = byte a i := by
  unfold byte
  rw [Joins.data_append, List.getD, List.getD, List.getElem?_append_left (by rw [← size_len]; exact h)]

theorem byte_right (a b : ByteArray) (i : Nat) (h : a.size ≤ i) : byte (a ++ b) i = byte b (i - a.size) := by
  unfold byte
  rw [Joins.data_append, List.getD, List.getD, List.getElem?_append_right (by rw [← size_len]; exact h), ← size_len]

/-- The text is of the temporary kind: it begins with a dot and ends in dot, t, m, p. -/
def Temp (s : ByteArray) : Prop := 4 ≤ s.size ∧ byte s 0 = 46 ∧ byte s (s.size - 4) = 46 ∧ byte s (s.size - 3) = 116 ∧ byte s (s.size - 2) = 109 ∧ byte s (s.size - 1) = 112

/-- Place d parts the name from the token. -/
def Split (s : ByteArray) (d : Nat) : Prop := Temp s ∧ 2 ≤ d ∧ d + 6 ≤ s.size ∧ byte s d = 46 ∧ ∀ i, d < i → i < s.size - 4 → byte s i ≠ 46

theorem cut_cut (s : ByteArray) (a b c : Nat) (hb : b ≤ s.size) (hc : a + c ≤ b) : (s.extract a b).extract 0 c = s.extract a (a + c) := by
  have e1 : (s.extract a b).size = b - a := size_cut s a b hb
  have e2 : ((s.extract a b).extract 0 c).size = c := by rw [size_cut _ _ _ (by omega)]; omega
  refine eq_of_bytes ?_ fun i hi => ?_
  · rw [e2, size_cut _ _ _ (by omega)]; omega
  · rw [e2] at hi
    rw [byte_cut _ _ _ _ (by omega), byte_cut _ _ _ _ (by omega), byte_cut _ _ _ _ (by omega), Nat.zero_add]

theorem toList_same {x y : ByteArray} (h : x = y) : (x.toList == y.toList) = true := by rw [h]; simp

theorem toList_ne_same {x y : ByteArray} (h : x = y) : (x.toList != y.toList) = false := by rw [h]; simp

theorem toList_bytes (x : ByteArray) : x.toList = x.data.toList := Lib.toList_data x

theorem beq_byte (b c : UInt8) : (b == c) = decide (b.toNat = c.toNat) := by
  rw [Bool.eq_iff_iff, beq_iff_eq, decide_eq_true_iff]
  exact UInt8.toNat_inj.symm

theorem head_dot (s : ByteArray) (h : 1 ≤ s.size) : ((s.extract 0 1).toList == [46]) = decide (byte s 0 = 46) := by
  rw [Lib.extract_toList]
  have h' : 0 < s.data.toList.length := by rw [← size_len]; omega
  unfold byte
  match e : s.data.toList with
  | [] => rw [e] at h'; simp at h'
  | b :: l =>
    simp [List.getD]
    rw [beq_byte]
    rfl

theorem tail_tmp (s : ByteArray) (h : 4 ≤ s.size) : ((s.extract (s.size - 4) s.size).toList == [46, 116, 109, 112]) = decide (byte s (s.size - 4) = 46 ∧ byte s (s.size - 3) = 116 ∧ byte s (s.size - 2) = 109 ∧ byte s (s.size - 1) = 112) := by
  have e1 : (s.extract (s.size - 4) s.size).size = 4 := by rw [size_cut _ _ _ (Nat.le_refl _)]; omega
  have b0 := byte_cut s (s.size - 4) s.size 0 (by omega)
  have b1 := byte_cut s (s.size - 4) s.size 1 (by omega)
  have b2 := byte_cut s (s.size - 4) s.size 2 (by omega)
  have b3 := byte_cut s (s.size - 4) s.size 3 (by omega)
  rw [Nat.add_zero] at b0
  rw [show s.size - 4 + 1 = s.size - 3 by omega] at b1
  rw [show s.size - 4 + 2 = s.size - 2 by omega] at b2
  rw [show s.size - 4 + 3 = s.size - 1 by omega] at b3
  rw [← b0, ← b1, ← b2, ← b3]
  generalize s.extract (s.size - 4) s.size = x at e1
  rw [size_len] at e1
  rw [toList_bytes]
  unfold byte
  match e : x.data.toList, e1 with
  | [v0, v1, v2, v3], _ =>
    simp [List.getD]
    rw [beq_byte, beq_byte, beq_byte, beq_byte]
    rfl
end Go.Proofs.Qxb6619352a
