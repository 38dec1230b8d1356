/-
  The two FinalName laws: plain: the temporary form of a name and a token; a text with another put in front of its name.
-/
import Derived.Test.Qxb6619352aFinalPlain
namespace Go.Proofs.Qxb6619352a

/-- The temporary form of the name F with the token T. -/
def form (F T : ByteArray) : ByteArray := { data := #[46] } ++ F ++ { data := #[46] } ++ T ++ { data := #[46, 116, 109, 112] }

theorem size1 : ({ data := #[46] } : ByteArray).size = 1 := rfl
theorem size4 : ({ data := #[46, 116, 109, 112] } : ByteArray).size = 4 := rfl

theorem form_size (F T : ByteArray) : (form F T).size = F.size + T.size + 6 := by
  unfold form
  rw [size_add, size_add, size_add, size_add, size1, size4]
  omega

theorem form_name (F T : ByteArray) (i : Nat) (h : i < F.size) : byte (form F T) (1 + i) = byte F i := by
  unfold form
  rw [byte_left _ _ _ (by rw [size_add, size_add, size_add, size1]; omega), byte_left _ _ _ (by rw [size_add, size_add, size1]; omega), byte_left _ _ _ (by rw [size_add, size1]; omega), byte_right _ _ _ (by rw [size1]; omega), size1, Nat.add_sub_cancel_left]

theorem form_head (F T : ByteArray) : byte (form F T) 0 = 46 := by
  unfold form
  rw [byte_left _ _ _ (by rw [size_add, size_add, size_add, size1]; omega), byte_left _ _ _ (by rw [size_add, size_add, size1]; omega), byte_left _ _ _ (by rw [size_add, size1]; omega), byte_left _ _ _ (by rw [size1]; omega)]
  rfl

theorem form_mid (F T : ByteArray) : byte (form F T) (F.size + 1) = 46 := by
  unfold form
  rw [byte_left _ _ _ (by rw [size_add, size_add, size_add, size1]; omega), byte_left _ _ _ (by rw [size_add, size_add, size1]; omega), byte_right _ _ _ (by rw [size_add, size1]; omega), size_add, size1, show F.size + 1 - (1 + F.size) = 0 by omega]
  rfl

theorem form_token (F T : ByteArray) (i : Nat) (h : i < T.size) : byte (form F T) (F.size + 2 + i) = byte T i := by
  unfold form
  rw [byte_left _ _ _ (by rw [size_add, size_add, size_add, size1]; omega), byte_right _ _ _ (by rw [size_add, size_add, size1]; omega), size_add, size_add, size1, show F.size + 2 + i - (1 + F.size + 1) = i by omega]

theorem form_tail (F T : ByteArray) (i : Nat) : byte (form F T) (F.size + T.size + 2 + i) = byte { data := #[46, 116, 109, 112] } i := by
  unfold form
  rw [byte_right _ _ _ (by rw [size_add, size_add, size_add, size1]; omega), size_add, size_add, size_add, size1, show F.size + T.size + 2 + i - (1 + F.size + 1 + T.size) = i by omega]

theorem form_temp (F T : ByteArray) : Temp (form F T) := by
  have hz := form_size F T
  have t0 := form_tail F T 0
  have t1 := form_tail F T 1
  have t2 := form_tail F T 2
  have t3 := form_tail F T 3
  refine ⟨by omega, form_head F T, ?_, ?_, ?_, ?_⟩
  · rw [hz, show F.size + T.size + 6 - 4 = F.size + T.size + 2 + 0 by omega, t0]; rfl
  · rw [hz, show F.size + T.size + 6 - 3 = F.size + T.size + 2 + 1 by omega, t1]; rfl
  · rw [hz, show F.size + T.size + 6 - 2 = F.size + T.size + 2 + 2 by omega, t2]; rfl
  · rw [hz, show F.size + T.size + 6 - 1 = F.size + T.size + 2 + 3 by omega, t3]; rfl

theorem form_split (F T : ByteArray) (f0 : 0 < F.size) (t0 : 0 < T.size) (hn : ∀ i, i < T.size → byte T i ≠ 46) : Split (form F T) (F.size + 1) := by
  have hz := form_size F T
  refine ⟨form_temp F T, by omega, by omega, form_mid F T, fun i h1 h2 => ?_⟩
  rw [show i = F.size + 2 + (i - (F.size + 2)) by omega, form_token F T _ (by omega)]
  exact hn _ (by omega)

theorem form_back (F T : ByteArray) : (form F T).extract 1 (F.size + 1) = F := by
  have hz := form_size F T
  have e : ((form F T).extract 1 (F.size + 1)).size = F.size := by rw [size_cut _ _ _ (by omega)]; omega
  refine eq_of_bytes e fun i hi => ?_
  rw [byte_cut _ _ _ _ (by omega), form_name F T i (by omega)]

/-- The text with A put in front of its name. -/
def front (A s : ByteArray) : ByteArray := { data := #[46] } ++ A ++ s.extract 1 s.size

theorem front_size (A s : ByteArray) (h : 0 < s.size) : (front A s).size = A.size + s.size := by
  unfold front
  rw [size_add, size_add, size1, size_cut _ _ _ (Nat.le_refl _)]
  omega

theorem front_head (A s : ByteArray) : byte (front A s) 0 = 46 := by
  unfold front
  rw [byte_left _ _ _ (by rw [size_add, size1]; omega), byte_left _ _ _ (by rw [size1]; omega)]
  rfl

theorem front_name (A s : ByteArray) (i : Nat) (h : i < A.size) : byte (front A s) (1 + i) = byte A i := by
  unfold front
  rw [byte_left _ _ _ (by rw [size_add, size1]; omega), byte_right _ _ _ (by rw [size1]; omega), size1, Nat.add_sub_cancel_left]

theorem front_rest (A s : ByteArray) (i : Nat) (h0 : 1 ≤ i) (h : i < s.size) : byte (front A s) (A.size + i) = byte s i := by
  unfold front
  rw [byte_right _ _ _ (by rw [size_add, size1]; omega), size_add, size1, byte_cut _ _ _ _ (by omega), show 1 + (A.size + i - (1 + A.size)) = i by omega]

theorem front_split (A s : ByteArray) (d : Nat) (h : Split s d) : Split (front A s) (A.size + d) := by
  obtain ⟨⟨t0, t1, t2, t3, t4, t5⟩, h1, h2, h3, h4⟩ := h
  have hz := front_size A s (by omega)
  refine ⟨⟨by omega, front_head A s, ?_, ?_, ?_, ?_⟩, by omega, by omega, ?_, fun i i1 i2 => ?_⟩
  · rw [hz, show A.size + s.size - 4 = A.size + (s.size - 4) by omega, front_rest _ _ _ (by omega) (by omega)]; exact t2
  · rw [hz, show A.size + s.size - 3 = A.size + (s.size - 3) by omega, front_rest _ _ _ (by omega) (by omega)]; exact t3
  · rw [hz, show A.size + s.size - 2 = A.size + (s.size - 2) by omega, front_rest _ _ _ (by omega) (by omega)]; exact t4
  · rw [hz, show A.size + s.size - 1 = A.size + (s.size - 1) by omega, front_rest _ _ _ (by omega) (by omega)]; exact t5
  · rw [front_rest _ _ _ (by omega) (by omega)]; exact h3
  · rw [show i = A.size + (i - A.size) by omega, front_rest _ _ _ (by omega) (by omega)]; exact h4 _ (by omega) (by omega)

theorem front_back (A s : ByteArray) (d : Nat) (h1 : 1 ≤ d) (h2 : d ≤ s.size) : (front A s).extract 1 (A.size + d) = A ++ s.extract 1 d := by
  have hz := front_size A s (by omega)
  have e : ((front A s).extract 1 (A.size + d)).size = A.size + d - 1 := by rw [size_cut _ _ _ (by omega)]
  have e' : (s.extract 1 d).size = d - 1 := size_cut _ _ _ h2
  refine eq_of_bytes ?_ fun i hi => ?_
  · rw [e, size_add, e']; omega
  · rw [e] at hi
    rw [byte_cut _ _ _ _ (by omega)]
    by_cases hA : i < A.size
    · rw [front_name A s i hA, byte_left _ _ _ hA]
    · rw [byte_right _ _ _ (by omega), byte_cut _ _ _ _ (by omega), show 1 + i = A.size + (1 + (i - A.size)) by omega, front_rest _ _ _ (by omega) (by omega)]
end Go.Proofs.Qxb6619352a
