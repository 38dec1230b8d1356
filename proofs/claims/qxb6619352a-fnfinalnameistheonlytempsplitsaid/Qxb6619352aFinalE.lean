/-
  FnFinalNameIsTheOnlyTempSplit: the walks.
-/
import Derived.Test.Qxb6619352aFinalC
import Derived.Test.Qxb6619352aFinalD
namespace Go.Proofs.Qxb6619352a
open Go.ChangeShapes Go.WideShapes Go.ChangeAt Go.RowKit

set_option maxHeartbeats 1000000 in
theorem only_yes (s A : ByteArray) (w : World) (hs : s.size ≤ maxLen) (hA : A.size ≤ maxLen) (s1 : s.size ≤ 4096) (a1 : A.size ≤ 4096) (d : Nat) (h : Split s d) :
    Calls Try.prog 3 #[.string s, .string A] w fun e w' => e = .returned (.bool true) ∧ w = w' := by
  have c5 := bytes5_any s A w hs hA
  have c6 := final_yes s w hs d h
  have c7 := split_yes s w hs d h
  have g1 : ¬ (4096 : Int) < (s.size : Int) := by omega
  have g2 : ¬ (4096 : Int) < (A.size : Int) := by omega
  have g3 : (0 : Int) < (s.size : Int) := by have := h.1.1; omega
  have HS : Hid (Split s d) := h
  clear h
  go_enter Try.func3, Try.ntmps3
  go_wp2_with (first | (go_at_call 5; refine c5.mono ?_; rintro e w' ⟨⟨r, rfl⟩, hw⟩; subst hw))
  any_goals (go_ret; exact ⟨rfl, rfl⟩)
  refine c6.mono ?_
  rintro e w' ⟨rfl, hw⟩
  subst hw
  go_wp2_with fail
  refine c7.mono ?_
  rintro e w' ⟨rfl, hw⟩
  subst hw
  go_wp2_with fail
  generalize hX : { data := #[46] } ++ A ++ s.extract 1 s.size = X
  have hX' : X = front A s := hX.symm
  have hp : 0 < s.size := by omega
  have hz : X.size ≤ maxLen := by rw [hX', front_size A s hp]; unfold maxLen; omega
  have hd1 : 1 ≤ d := by have := HS.out.2.1; omega
  have hd2 : d ≤ s.size := by have := HS.out.2.2.1; omega
  have c6' := final_yes X w hz (A.size + d) (by rw [hX']; exact front_split A s d HS.out)
  have hback : X.extract 1 (A.size + d) = A ++ s.extract 1 d := by rw [hX']; exact front_back A s d hd1 hd2
  have he := toList_same hback
  have he' := toList_ne_same hback
  have hr : (s.extract 1 d).size ≤ 4096 := by rw [size_cut _ _ _ hd2]; omega
  clear hX hX' hz hback c5 c6 c7
  refine c6'.mono ?_
  rintro e w' ⟨rfl, hw⟩
  subst hw
  go_wp2
  go_ret
  exact ⟨rfl, rfl⟩

set_option maxHeartbeats 1000000 in
theorem only_no (s A : ByteArray) (w : World) (hs : s.size ≤ maxLen) (hA : A.size ≤ maxLen) (s1 : s.size ≤ 4096) (a1 : A.size ≤ 4096) (h : ∀ d, ¬ Split s d) :
    Calls Try.prog 3 #[.string s, .string A] w fun e w' => e = .returned (.bool true) ∧ w = w' := by
  have c5 := bytes5_any s A w hs hA
  have c6 := final_no s w hs h
  have c7 := split_no s w hs (by omega) h
  have g1 : ¬ (4096 : Int) < (s.size : Int) := by omega
  have g2 : ¬ (4096 : Int) < (A.size : Int) := by omega
  clear h
  go_enter Try.func3, Try.ntmps3
  go_wp2_with (first | (go_at_call 5; refine c5.mono ?_; rintro e w' ⟨⟨r, rfl⟩, hw⟩; subst hw))
  any_goals (go_ret; exact ⟨rfl, rfl⟩)
  refine c6.mono ?_
  rintro e w' ⟨rfl, hw⟩
  subst hw
  go_wp2_with fail
  refine c7.mono ?_
  rintro e w' ⟨rfl, hw⟩
  subst hw
  go_wp2
  go_ret
  exact ⟨rfl, rfl⟩

set_option maxHeartbeats 1000000 in
theorem only_out (s A : ByteArray) (w : World) (hs : s.size ≤ maxLen) (hA : A.size ≤ maxLen) (h : 4096 < s.size ∨ (s.size ≤ 4096 ∧ 4096 < A.size)) :
    Calls Try.prog 3 #[.string s, .string A] w fun e w' => e = .returned (.bool true) ∧ w = w' := by
  have c5 := bytes5_any s A w hs hA
  unfold maxLen at hs hA
  rcases h with h | ⟨h, h2⟩
  · have h' : (4096 : Int) < (s.size : Int) := by omega
    clear h
    go_enter Try.func3, Try.ntmps3
    go_wp2_with (go_at_call 5; refine c5.mono ?_; rintro e w' ⟨⟨r, rfl⟩, hw⟩; subst hw)
    all_goals
      go_ret
      exact ⟨rfl, rfl⟩
  · have h' : (s.size : Int) ≤ 4096 := by omega
    have h2' : (4096 : Int) < (A.size : Int) := by omega
    clear h h2
    go_enter Try.func3, Try.ntmps3
    go_wp2_with (go_at_call 5; refine c5.mono ?_; rintro e w' ⟨⟨r, rfl⟩, hw⟩; subst hw)
    all_goals
      go_ret
      exact ⟨rfl, rfl⟩

theorem only_any (s A : ByteArray) (w : World) (hs : s.size ≤ maxLen) (hA : A.size ≤ maxLen) :
    Calls Try.prog 3 #[.string s, .string A] w fun e w' => e = .returned (.bool true) ∧ w = w' := by
  by_cases h1 : 4096 < s.size ∨ (s.size ≤ 4096 ∧ 4096 < A.size)
  · exact only_out s A w hs hA h1
  · by_cases h2 : ∃ d, Split s d
    · obtain ⟨d, hd⟩ := h2
      exact only_yes s A w hs hA (by omega) (by omega) d hd
    · exact only_no s A w hs hA (by omega) (by omega) (fun d hd => h2 ⟨d, hd⟩)
end Go.Proofs.Qxb6619352a
