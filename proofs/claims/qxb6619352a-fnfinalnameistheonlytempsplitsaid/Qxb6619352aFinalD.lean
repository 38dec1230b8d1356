/-
  FnFinalNameRecoversNameFromTempForm: the walks.
-/
import Derived.Test.Qxb6619352aFinalB
import Derived.Test.Qxb6619352aFinalForms
namespace Go.Proofs.Qxb6619352a
open Go.ChangeShapes Go.WideShapes Go.ChangeAt Go.RowKit

/-- Some bool comes back. -/
def IsBool (e : Ending) : Prop := ∃ r : Bool, e = .returned (.bool r)
theorem IsBool.mk (r : Bool) : IsBool (.returned (.bool r)) := ⟨r, rfl⟩

set_option maxHeartbeats 400000 in
theorem bytes8_any (a b : ByteArray) (w : World) (ha : a.size ≤ maxLen) (hb : b.size ≤ maxLen) :
    Calls Try.prog 8 #[.string a, .string b] w fun e w' => IsBool e ∧ w = w' := by
  unfold maxLen at ha hb
  go_enter Try.func8, Try.ntmps8
  go_wp2
  all_goals
    go_ret
    exact ⟨IsBool.mk _, rfl⟩

set_option maxHeartbeats 400000 in
theorem bytes5_any (a b : ByteArray) (w : World) (ha : a.size ≤ maxLen) (hb : b.size ≤ maxLen) :
    Calls Try.prog 5 #[.string a, .string b] w fun e w' => IsBool e ∧ w = w' := by
  unfold maxLen at ha hb
  go_enter Try.func5, Try.ntmps5
  go_wp2
  all_goals
    go_ret
    exact ⟨IsBool.mk _, rfl⟩

set_option maxHeartbeats 1000000 in
theorem recovers_main (F T : ByteArray) (w : World) (hF : F.size ≤ maxLen) (hT : T.size ≤ maxLen) (f0 : 0 < F.size) (t0 : 0 < T.size) (hn : ∀ i, i < T.size → byte T i ≠ 46) (f1 : F.size ≤ 65536) (t1 : T.size ≤ 65536) :
    Calls Try.prog 4 #[.string F, .string T] w fun e w' => e = .returned (.bool true) ∧ w = w' := by
  have c8 := bytes8_any F T w hF hT
  have c9 := hasDot_no T w hT hn
  have g1 : ¬ (65536 : Int) < (F.size : Int) := by omega
  have g2 : ¬ (65536 : Int) < (T.size : Int) := by omega
  have g3 : F.toList.isEmpty = false := by
    rw [toList_bytes]
    cases hl : F.data.toList with
    | nil => rw [size_len, hl] at f0; simp at f0
    | cons x y => rfl
  have g4 : T.toList.isEmpty = false := by
    rw [toList_bytes]
    cases hl : T.data.toList with
    | nil => rw [size_len, hl] at t0; simp at t0
    | cons x y => rfl
  have HN : Hid (∀ i, i < T.size → byte T i ≠ 46) := hn
  clear hn
  go_enter Try.func4, Try.ntmps4
  go_wp2_with (first | (go_at_call 8; refine c8.mono ?_; rintro e w' ⟨⟨r, rfl⟩, hw⟩; subst hw) | (go_at_call 9; refine c9.mono ?_; rintro e w' ⟨rfl, hw⟩; subst hw))
  any_goals (go_ret; exact ⟨rfl, rfl⟩)
  generalize hX : { data := #[46] } ++ F ++ { data := #[46] } ++ T ++ { data := #[46, 116, 109, 112] } = X
  have hX' : X = form F T := hX.symm
  have hz : X.size ≤ maxLen := by rw [hX', form_size]; unfold maxLen; omega
  have c10 := isTemp_yes X w hz (by rw [hX']; exact form_temp F T)
  have c6 := final_yes X w hz (F.size + 1) (by rw [hX']; exact form_split F T f0 t0 HN.out)
  have he : ((X.extract 1 (F.size + 1)).toList == F.toList) = true := toList_same (by rw [hX']; exact form_back F T)
  clear hX hX' hz
  refine c10.mono ?_
  rintro e w' ⟨rfl, hw⟩
  subst hw
  go_wp2_with fail
  refine c6.mono ?_
  rintro e w' ⟨rfl, hw⟩
  subst hw
  go_wp2
  go_ret
  exact ⟨rfl, rfl⟩

set_option maxHeartbeats 1000000 in
theorem recovers_dot (F T : ByteArray) (w : World) (hF : F.size ≤ maxLen) (hT : T.size ≤ maxLen) (d : Nat) (hd : d < T.size) (h : byte T d = 46) :
    Calls Try.prog 4 #[.string F, .string T] w fun e w' => e = .returned (.bool true) ∧ w = w' := by
  have c8 := bytes8_any F T w hF hT
  have c9 := hasDot_yes T w hT d hd h
  clear h
  unfold maxLen at hF hT
  go_enter Try.func4, Try.ntmps4
  go_wp2_with (first | (go_at_call 8; refine c8.mono ?_; rintro e w' ⟨⟨r, rfl⟩, hw⟩; subst hw) | (go_at_call 9; refine c9.mono ?_; rintro e w' ⟨rfl, hw⟩; subst hw))
  all_goals
    go_ret
    exact ⟨rfl, rfl⟩

set_option maxHeartbeats 1000000 in
theorem recovers_out (F T : ByteArray) (w : World) (hF : F.size ≤ maxLen) (hT : T.size ≤ maxLen) (h : 65536 < F.size ∨ 65536 < T.size) :
    Calls Try.prog 4 #[.string F, .string T] w fun e w' => e = .returned (.bool true) ∧ w = w' := by
  have c8 := bytes8_any F T w hF hT
  unfold maxLen at hF hT
  rcases h with h | h
  · have h' : (65536 : Int) < (F.size : Int) := by omega
    clear h
    go_enter Try.func4, Try.ntmps4
    go_wp2_with (go_at_call 8; refine c8.mono ?_; rintro e w' ⟨⟨r, rfl⟩, hw⟩; subst hw)
    all_goals
      go_ret
      exact ⟨rfl, rfl⟩
  · have h' : (65536 : Int) < (T.size : Int) := by omega
    clear h
    go_enter Try.func4, Try.ntmps4
    go_wp2_with (go_at_call 8; refine c8.mono ?_; rintro e w' ⟨⟨r, rfl⟩, hw⟩; subst hw)
    all_goals
      go_ret
      exact ⟨rfl, rfl⟩

set_option maxHeartbeats 1000000 in
theorem recovers_empty (F T : ByteArray) (w : World) (hF : F.size ≤ maxLen) (hT : T.size ≤ maxLen) (h : F.toList.isEmpty = true ∨ (F.toList.isEmpty = false ∧ T.toList.isEmpty = true)) :
    Calls Try.prog 4 #[.string F, .string T] w fun e w' => e = .returned (.bool true) ∧ w = w' := by
  have c8 := bytes8_any F T w hF hT
  unfold maxLen at hF hT
  rcases h with h | ⟨h, h2⟩
  all_goals
    go_enter Try.func4, Try.ntmps4
    go_wp2_with (go_at_call 8; refine c8.mono ?_; rintro e w' ⟨⟨r, rfl⟩, hw⟩; subst hw)
    all_goals
      go_ret
      exact ⟨rfl, rfl⟩

theorem empty_iff (F : ByteArray) : F.toList.isEmpty = decide (F.size = 0) := by
  rw [toList_bytes, size_len]
  cases F.data.toList <;> simp

theorem recovers_any (F T : ByteArray) (w : World) (hF : F.size ≤ maxLen) (hT : T.size ≤ maxLen) :
    Calls Try.prog 4 #[.string F, .string T] w fun e w' => e = .returned (.bool true) ∧ w = w' := by
  by_cases h1 : 65536 < F.size ∨ 65536 < T.size
  · exact recovers_out F T w hF hT h1
  · by_cases h2 : F.size = 0
    · exact recovers_empty F T w hF hT (Or.inl (by rw [empty_iff]; simp [h2]))
    · by_cases h3 : T.size = 0
      · exact recovers_empty F T w hF hT (Or.inr ⟨by rw [empty_iff]; simp [h2], by rw [empty_iff]; simp [h3]⟩)
      · rcases last_or_none T T.size with hn | ⟨m, m1, m2, _⟩
        · exact recovers_main F T w hF hT (by omega) (by omega) hn (by omega) (by omega)
        · exact recovers_dot F T w hF hT m m1 m2
end Go.Proofs.Qxb6619352a
