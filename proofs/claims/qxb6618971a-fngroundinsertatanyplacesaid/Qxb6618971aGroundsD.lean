/-
  The two Ground laws: (*Rulebook).Ground: found at m; not found; whatever comes back.
-/
import Derived.Test.Qxb6618971aGroundsC
namespace Go.Proofs.Qxb6618971a
open Go.ChangeShapes Go.WideShapes Go.ChangeAt Go.RowKit
abbrev Zc (q : ByteArray) : Obj := .cells #[.string q] 9
abbrev Zg : Obj := .cells #[.string { data := #[] }, .string { data := #[] }, .string { data := #[] }, .slice none 0 0] 61

/-- What the callee leaves of the two blocks that Ground has laid ahead of the call. -/
theorem after_index {w w1 : World} {q : ByteArray} (hb : Below ((w.alloc (Zc q)).alloc Zg).heap.size ((w.alloc (Zc q)).alloc Zg) w1) :
    Below w.heap.size w w1 ∧ w.heap.size + 1 < w1.heap.size ∧ w1.cell? ⟨w.heap.size + 1, 0, none⟩ = some (.string { data := #[] }) ∧ w1.cell? ⟨w.heap.size + 1, 1, none⟩ = some (.string { data := #[] }) ∧ w1.cell? ⟨w.heap.size + 1, 2, none⟩ = some (.string { data := #[] }) ∧ w1.cell? ⟨w.heap.size + 1, 3, none⟩ = some (.slice none 0 0) ∧
    w1.frozen? ⟨w.heap.size + 1, 0, none⟩ = false ∧ w1.frozen? ⟨w.heap.size + 1, 1, none⟩ = false ∧ w1.frozen? ⟨w.heap.size + 1, 2, none⟩ = false ∧ w1.frozen? ⟨w.heap.size + 1, 3, none⟩ = false := by
  refine ⟨(Joins.below_alloc2 w _ _).trans (hb.mono (by simp; omega)), by have := hb.size; simp at this; omega, ?_, ?_, ?_, ?_, ?_, ?_, ?_, ?_⟩
  all_goals first | rw [hb.cell (p := ⟨w.heap.size + 1, _, none⟩) (by simp)] | rw [hb.frozen (p := ⟨w.heap.size + 1, _, none⟩) (by simp)]
  all_goals simp

set_option maxHeartbeats 1000000 in
theorem ground_hit (A : Option Addr) (n cap : Nat) (Z : Nat → Gr) (q : ByteArray) (R : Nat) (w : World) (hn : n ≤ maxLen) (hR : R < w.heap.size) (hcell : w.cell? ⟨R, 16, none⟩ = some (.slice A n cap))
    (hrow : 0 < n → ∃ b o, A = some ⟨b, o, none⟩ ∧ RowAt w b o n Z) (m : Nat) (hm : m < n) (hbef : ∀ j, j < m → ((Z j).c.toList == q.toList) = false) (hat : ((Z m).c.toList == q.toList) = true) :
    Calls Try.prog 12 #[.pointer (some ⟨R, 0, none⟩), .string q] w fun en w' => en = .returned (.tuple #[.agg #[.string (Z m).c, .string (Z m).l, .string (Z m).e, .slice (Z m).a (Z m).n (Z m).cap], .bool true]) ∧ Below w.heap.size w w' := by
  obtain ⟨b, o, rfl, hr⟩ := hrow (by omega)
  have hW2 := Joins.below_alloc2 w (Zc q) Zg
  have hcall := index_hit (some ⟨b, o, none⟩) n cap Z q w.heap.size ((w.alloc (Zc q)).alloc Zg) hn (by simp; omega) (by simp) (fun _ => ⟨b, o, rfl, hr.below hW2⟩) m hm hbef hat
  have HR : Hid (RowAt w b o n Z) := hr
  have hne : R ≠ w.heap.size := by omega
  have hne1 : R ≠ w.heap.size + 1 := by omega
  have hn' : (n : Int) ≤ 9223372036854775807 := by unfold maxLen at hn; omega
  have hm0 : decide ((m : Int) < 0) = false := by simp
  clear hbef hrow hat hr hW2
  go_enter Try.func12, Try.ntmps12
  go_wp2_with (go_at_call 18; refine hcall.mono ?_; rintro e w1 ⟨rfl, hb1⟩; obtain ⟨hbw, hsz, c0, c1, c2, c3, f0, f1, f2, f3⟩ := after_index hb1; have cR := (hbw.cell (p := ⟨R, 16, none⟩) hR).trans hcell; obtain ⟨x1, x2, x3, x4⟩ := (HR.out.below hbw).2 m hm; clear hb1)
  exact bodyPost_ret (v := .tuple #[.agg #[.string (Z m).c, .string (Z m).l, .string (Z m).e, .slice (Z m).a (Z m).n (Z m).cap], .bool true]) (by simp [results, Try.results12, go_sem, c0, c1, c2, c3]) rfl ⟨rfl, (((hbw.setCell (by simp) _).setCell (by simp) _).setCell (by simp) _).setCell (by simp) _⟩

set_option maxHeartbeats 1000000 in
theorem ground_miss (A : Option Addr) (n cap : Nat) (Z : Nat → Gr) (q : ByteArray) (R : Nat) (w : World) (hn : n ≤ maxLen) (hR : R < w.heap.size) (hcell : w.cell? ⟨R, 16, none⟩ = some (.slice A n cap))
    (hrow : 0 < n → ∃ b o, A = some ⟨b, o, none⟩ ∧ RowAt w b o n Z) (hbef : ∀ j, j < n → ((Z j).c.toList == q.toList) = false) :
    Calls Try.prog 12 #[.pointer (some ⟨R, 0, none⟩), .string q] w fun en w' => en = .returned (.tuple #[.agg #[.string { data := #[] }, .string { data := #[] }, .string { data := #[] }, .slice none 0 0], .bool false]) ∧ Below w.heap.size w w' := by
  have hW2 := Joins.below_alloc2 w (Zc q) Zg
  have hcall := index_miss A n cap Z q w.heap.size ((w.alloc (Zc q)).alloc Zg) hn (by simp; omega) (by simp) (fun h => by obtain ⟨b, o, h1, h2⟩ := hrow h; exact ⟨b, o, h1, h2.below hW2⟩) hbef
  have hne : R ≠ w.heap.size := by omega
  have hne1 : R ≠ w.heap.size + 1 := by omega
  clear hbef hrow hW2
  go_enter Try.func12, Try.ntmps12
  go_wp2_with (go_at_call 18; refine hcall.mono ?_; rintro e w1 ⟨rfl, hb1⟩; obtain ⟨hbw, hsz, c0, c1, c2, c3, f0, f1, f2, f3⟩ := after_index hb1; clear hb1)
  exact bodyPost_ret (v := .tuple #[.agg #[.string { data := #[] }, .string { data := #[] }, .string { data := #[] }, .slice none 0 0], .bool false]) (by simp [results, Try.results12, go_sem, c0, c1, c2, c3]) rfl ⟨rfl, (((hbw.setCell (by simp) _).setCell (by simp) _).setCell (by simp) _).setCell (by simp) _⟩

/-- Of the first n places either none answers yes, or there is a first. -/
theorem first_or_none (p : Nat → Bool) (n : Nat) : (∀ j, j < n → p j = false) ∨ ∃ m, m < n ∧ p m = true ∧ ∀ j, j < m → p j = false := by
  induction n with
  | zero => exact Or.inl fun j hj => absurd hj (Nat.not_lt_zero _)
  | succ n ih =>
    rcases ih with h | ⟨m, h1, h2, h3⟩
    · cases hp : p n with
      | true => exact Or.inr ⟨n, Nat.lt_succ_self _, hp, h⟩
      | false =>
        refine Or.inl fun j hj => ?_
        rcases Nat.lt_succ_iff_lt_or_eq.1 hj with h' | rfl
        · exact h j h'
        · exact hp
    · exact Or.inr ⟨m, by omega, h2, h3⟩

theorem ground_some (A : Option Addr) (n cap : Nat) (Z : Nat → Gr) (q : ByteArray) (R : Nat) (w : World) (hn : n ≤ maxLen) (hR : R < w.heap.size) (hcell : w.cell? ⟨R, 16, none⟩ = some (.slice A n cap))
    (hrow : 0 < n → ∃ b o, A = some ⟨b, o, none⟩ ∧ RowAt w b o n Z) :
    Calls Try.prog 12 #[.pointer (some ⟨R, 0, none⟩), .string q] w fun en w' => (∃ (c l e : ByteArray) (a : Option Addr) (k kc : Nat) (r : Bool), en = .returned (.tuple #[.agg #[.string c, .string l, .string e, .slice a k kc], .bool r])) ∧ Below w.heap.size w w' := by
  rcases first_or_none (fun j => (Z j).c.toList == q.toList) n with h | ⟨m, h1, h2, h3⟩
  · exact (ground_miss A n cap Z q R w hn hR hcell hrow h).mono fun e w' ⟨he, hb⟩ => ⟨⟨_, _, _, _, _, _, _, he⟩, hb⟩
  · exact (ground_hit A n cap Z q R w hn hR hcell hrow m h1 h3 h2).mono fun e w' ⟨he, hb⟩ => ⟨⟨_, _, _, _, _, _, _, he⟩, hb⟩
end Go.Proofs.Qxb6618971a
