/-
  FnGroundInsertAtAnyPlace: plain laws: a row that grows; what Ground answers, as Hits and Misses; the list with a ground put in.
-/
import Derived.Test.Qxb6618971aJoinA
namespace Go.Proofs.Qxb6618971a
open Go.ChangeShapes Go.WideShapes Go.ChangeAt Go.RowKit

abbrev cellsOf (g : Gr) : List Value := [.string g.c, .string g.l, .string g.e, .slice g.a g.n g.cap]

def cellsTo (Y : Nat → Gr) : Nat → List Value
  | 0 => []
  | k + 1 => cellsTo Y k ++ cellsOf (Y k)

theorem cellsTo_length (Y : Nat → Gr) (k : Nat) : (cellsTo Y k).length = k * 4 := by
  induction k with
  | zero => rfl
  | succ k ih => simp [cellsTo, ih]; omega

theorem cellsTo_succ {Y : Nat → Gr} {k : Nat} {g : Gr} (h : Y k = g) : cellsTo Y (k + 1) = cellsTo Y k ++ cellsOf g := by rw [cellsTo, h]

theorem cellsTo_get (Y : Nat → Gr) (k j r : Nat) (hj : j < k) (hr : r < 4) : (cellsTo Y k)[j * 4 + r]? = (cellsOf (Y j))[r]? := by
  induction k with
  | zero => omega
  | succ k ih =>
    by_cases h : j < k
    · rw [cellsTo, List.getElem?_append_left (by rw [cellsTo_length]; omega)]
      exact ih h
    · have e : j = k := by omega
      subst e
      rw [cellsTo, List.getElem?_append_right (by rw [cellsTo_length]; omega), cellsTo_length]
      congr 1
      omega

theorem row_of_owns {w : World} {base g k cap : Nat} {Y : Nat → Gr} (h : w.ownsRow base 61 4 (.slice (some ⟨g, 0, none⟩) k cap) k (cellsTo Y k)) (hg : g < w.heap.size) : RowAt w g 0 k Y := by
  refine ⟨hg, fun j hj => ?_⟩
  rw [Nat.zero_add]
  have hc := fun r (hr : r < 4) => (h.cellAt (j * 4 + r) (by omega)).trans (cellsTo_get Y k j r hj hr)
  exact ⟨hc 0 (by omega), hc 1 (by omega), hc 2 (by omega), hc 3 (by omega)⟩

theorem owns_below {w w' : World} {base g k cap : Nat} {xs : List Value} (h : w.ownsRow base 61 4 (.slice (some ⟨g, 0, none⟩) k cap) k xs) (hb : Below w.heap.size w w') : w'.ownsRow base 61 4 (.slice (some ⟨g, 0, none⟩) k cap) k xs := by
  obtain ⟨h1, h2⟩ := h
  refine ⟨h1, ?_⟩
  rcases h2 with ⟨h2, _⟩ | ⟨g', cap', cur, hv, hg, hh, r⟩
  · simp at h2
  · refine Or.inr ⟨g', cap', cur, hv, hg, ?_, r⟩
    have hlt : g' < w.heap.size := by
      rcases Nat.lt_or_ge g' w.heap.size with h' | h'
      · exact h'
      · rw [Array.getElem?_eq_none h'] at hh; cases hh
    rw [hb.block g' hlt]
    exact hh

/-- Of the n grounds Z the first with code q is g. -/
def Hits (Z : Nat → Gr) (n : Nat) (q : ByteArray) (g : Gr) : Prop := ∃ m, m < n ∧ Z m = g ∧ (∀ j, j < m → ((Z j).c.toList == q.toList) = false) ∧ (g.c.toList == q.toList) = true

def Misses (Z : Nat → Gr) (n : Nat) (q : ByteArray) : Prop := ∀ j, j < n → ((Z j).c.toList == q.toList) = false

theorem hits_or_misses (Z : Nat → Gr) (n : Nat) (q : ByteArray) : Misses Z n q ∨ ∃ g, Hits Z n q g := by
  rcases first_or_none (fun j => (Z j).c.toList == q.toList) n with h | ⟨m, h1, h2, h3⟩
  · exact Or.inl h
  · exact Or.inr ⟨Z m, m, h1, rfl, h3, h2⟩

theorem book_hits {w : World} {R n c : Nat} {A : Option Addr} {Z : Nat → Gr} (h : BookAt w R A n c Z) (hn : n ≤ maxLen) {q : ByteArray} {g : Gr} (hh : Hits Z n q g) :
    Calls Try.prog 12 #[.pointer (some ⟨R, 0, none⟩), .string q] w fun en w' => en = .returned (.tuple #[.agg #[.string g.c, .string g.l, .string g.e, .slice g.a g.n g.cap], .bool true]) ∧ Below w.heap.size w w' := by
  obtain ⟨m, h1, rfl, h3, h4⟩ := hh
  exact book_hit h hn q m h1 h3 h4

/-- The n grounds Z with I put in at place p. -/
def put (Z : Nat → Gr) (p : Nat) (I : Gr) (i : Nat) : Gr := if i < p then Z i else if i = p then I else Z (i - 1)

theorem put_lt {Z : Nat → Gr} {p : Nat} {I : Gr} {i : Nat} (h : i < p) : put Z p I i = Z i := by unfold put; rw [if_pos h]
theorem put_at (Z : Nat → Gr) (p : Nat) (I : Gr) : put Z p I p = I := by unfold put; rw [if_neg (by omega), if_pos rfl]
theorem put_gt {Z : Nat → Gr} {p : Nat} {I : Gr} {i : Nat} (h : p ≤ i) : put Z p I (i + 1) = Z i := by unfold put; rw [if_neg (by omega), if_neg (by omega), Nat.add_sub_cancel]

/-- A ground ahead of p has the code: the first such is found, before and after. -/
theorem hits_before {Z : Nat → Gr} {n p : Nat} {q : ByteArray} {g : Gr} (I : Gr) (hp : p ≤ n) (h : Hits Z p q g) : Hits Z n q g ∧ Hits (put Z p I) (n + 1) q g := by
  obtain ⟨m, h1, h2, h3, h4⟩ := h
  refine ⟨⟨m, by omega, h2, h3, h4⟩, ⟨m, by omega, by rw [put_lt h1]; exact h2, fun j hj => ?_, h4⟩⟩
  rw [put_lt (by omega)]
  exact h3 j hj

/-- No ground ahead of p has I's code q: I is found. -/
theorem hits_at {Z : Nat → Gr} {n p : Nat} {q : ByteArray} {I : Gr} (hp : p ≤ n) (h : Misses Z p q) (hI : (I.c.toList == q.toList) = true) : Hits (put Z p I) (n + 1) q I :=
  ⟨p, by omega, put_at Z p I, fun j hj => by rw [put_lt hj]; exact h j hj, hI⟩

/-- I has another code than q: q is found after as before. -/
theorem hits_other {Z : Nat → Gr} {n p : Nat} {q : ByteArray} {I : Gr} (hp : p ≤ n) (hI : (I.c.toList == q.toList) = false) : (∃ g, Hits Z n q g ∧ Hits (put Z p I) (n + 1) q g) ∨ (Misses Z n q ∧ Misses (put Z p I) (n + 1) q) := by
  rcases first_or_none (fun j => (Z j).c.toList == q.toList) n with h | ⟨m, h1, h2, h3⟩
  · refine Or.inr ⟨h, fun j hj => ?_⟩
    rcases Nat.lt_trichotomy j p with hj' | hj' | hj'
    · rw [put_lt hj']; exact h j (by omega)
    · rw [hj', put_at]; exact hI
    · obtain ⟨i, rfl⟩ : ∃ i, j = i + 1 := ⟨j - 1, by omega⟩
      rw [put_gt (by omega)]; exact h i (by omega)
  · refine Or.inl ⟨Z m, ⟨m, h1, rfl, h3, h2⟩, ?_⟩
    rcases Nat.lt_or_ge m p with hm | hm
    · exact ⟨m, by omega, put_lt hm, fun j hj => by rw [put_lt (by omega)]; exact h3 j hj, h2⟩
    · refine ⟨m + 1, by omega, put_gt hm, fun j hj => ?_, h2⟩
      rcases Nat.lt_trichotomy j p with hj' | hj' | hj'
      · rw [put_lt hj']; exact h3 j (by omega)
      · rw [hj', put_at]; exact hI
      · obtain ⟨i, rfl⟩ : ∃ i, j = i + 1 := ⟨j - 1, by omega⟩
        rw [put_gt (by omega)]; exact h3 i (by omega)

/-- The two codes are one: what misses the one misses the other. -/
theorem misses_same {Z : Nat → Gr} {n : Nat} {c q : ByteArray} (h : Misses Z n c) (e : (q.toList == c.toList) = true) : Misses Z n q := fun j hj => by
  have e' : q.toList = c.toList := by simpa using e
  rw [e']
  exact h j hj

theorem toRules_any (A : Option Addr) (n cap : Nat) (Z : Nat → Gr) (w : World) (hn : n * 72 ≤ 281474976710656) (hA : A = none → n = 0 ∧ cap = 0) (hG : GsAt w A n Z) :
    Calls Try.prog 11 #[.slice A n cap] w fun en w' => ∃ (A1 : Option Addr) (c1 : Nat), en = .returned (.slice A1 n c1) ∧ (0 < n → ∃ b o, A1 = some ⟨b, o, none⟩ ∧ RowAt w' b o n Z) ∧ Below w.heap.size w w' := by
  cases A with
  | none =>
    obtain ⟨rfl, rfl⟩ := hA rfl
    exact (toRules_nil w).mono fun e w' ⟨he, hw⟩ => ⟨none, 0, he, fun h => absurd h (Nat.lt_irrefl _), by rw [← hw]; exact Below.refl _ _⟩
  | some x => exact (toRules_some x n cap Z w hn hG).mono fun e w' ⟨he, hr, hb⟩ => ⟨_, _, he, fun _ => ⟨_, _, rfl, hr⟩, hb⟩

theorem book1 {w : World} (A1 : Option Addr) (n1 c1 : Nat) (Z1 : Nat → Gr) (h1 : 0 < n1 → ∃ b o, A1 = some ⟨b, o, none⟩ ∧ RowAt w b o n1 Z1) : BookAt (w.alloc (book A1 n1 c1)) w.heap.size A1 n1 c1 Z1 := by
  refine ⟨by simp, ?_, fun h => ?_⟩
  · rw [World.cell?_alloc_at _ _ _ _ rfl]; rfl
  · obtain ⟨b, o, e, hr⟩ := h1 h; exact ⟨b, o, e, hr.below (Joins.below_alloc1 w _)⟩

/-- Behind a call made with the parameter ins boxed in block 'w.heap.size'. -/
theorem after_ins {w w' : World} {g : Gr} (hb : Below (w.alloc (.cells #[.string g.c, .string g.l, .string g.e, .slice g.a g.n g.cap] 58)).heap.size (w.alloc (.cells #[.string g.c, .string g.l, .string g.e, .slice g.a g.n g.cap] 58)) w') :
    Below w.heap.size w w' ∧ w.heap.size < w'.heap.size ∧ CellsAt w' w.heap.size 0 g := by
  refine ⟨(Joins.below_alloc1 w _).trans (hb.mono (by simp)), by have := hb.size; simp at this; omega, ?_⟩
  refine CellsAt.below ?_ (by simp) hb
  refine ⟨?_, ?_, ?_, ?_⟩ <;> simp
end Go.Proofs.Qxb6618971a
