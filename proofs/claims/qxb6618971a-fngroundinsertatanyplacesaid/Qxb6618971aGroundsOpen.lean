/-
  The two Ground laws: an argument of type []ZGround, and one of type ZGround, opened into what the walks ask.
-/
import Derived.Test.Qxb6618971aGroundsH
import Derived.ProofKit
import Derived.OpenShut
import Derived.ShutString
import Derived.ChangeOld
import Derived.Below
import Derived.SizedLaws
import Derived.Lib.SmallJoins
namespace Go.Proofs.Qxb6618971a
open Go.ChangeShapes Go.WideShapes Go.ChangeAt Go.RowKit

theorem Try.cells9 : Try.prog.cellsOf 9 = 1 := by kernel_rfl
theorem Try.cells48 : Try.prog.cellsOf 48 = 1 := by kernel_rfl
theorem Try.cells58 : Try.prog.cellsOf 58 = 4 := by kernel_rfl
theorem Try.bytes58 : Try.prog.bytesOf 58 = 72 := by kernel_rfl

theorem lt_of_cell {w : World} {a : Addr} {v : Value} (h : w.cell? a = some v) : a.block < w.heap.size := by
  rcases Nat.lt_or_ge a.block w.heap.size with h' | h'
  · exact h'
  · unfold World.cell? at h
    rw [Array.getElem?_eq_none h'] at h
    cases h

theorem list4 {α : Type} {l : List α} (h : l.length = 4) : ∃ a b c d, l = [a, b, c, d] := by
  match l, h with
  | [a, b, c, d], _ => exact ⟨a, b, c, d, rfl⟩

section
variable {H : Type} {enc : TypeId × Value → H} {W : World} {base : Nat} {spare : Nat → Bool} {held : Bool}

/-- The header of a []string, read. -/
theorem rel_of_trod {n : Nat} {v : Value} {y : DataW H × List MemPlace} (h : DataW.trod enc Try.prog W base spare held n 48 [v] = some y) : ∃ (a : Option Addr) (l c : Nat), v = .slice a l c ∧ l ≤ maxLen ∧ RelAt W a l := by
  rcases Deep.open_strs Try.underlying48 Try.underlying9 Try.cells9 h with ⟨h1, _⟩ | ⟨a, len, cap, m, S, h1, _, hl, hm, hmm, _, hS⟩
  · simp at h1
    subst h1
    exact ⟨none, 0, 0, rfl, Nat.zero_le _, fun h => absurd h (Nat.lt_irrefl _)⟩
  · simp at h1
    subst h1
    refine ⟨some a, len, cap, rfl, Nat.le_trans hl hm, fun hp => ?_⟩
    have hlm : len ≤ m := by rw [hmm]; split <;> omega
    obtain ⟨b, off, spot⟩ := a
    have h0 := (hS 0 (by omega)).1
    have hspot : spot = none := by simpa [Addr.add] using World.cell?_spot h0
    subst hspot
    refine ⟨b, off, S, rfl, by simpa [Addr.add] using lt_of_cell h0, fun i hi => ?_⟩
    have := hS i (by omega)
    rwa [add_plain] at this

/-- The four cells of a ZGround, read. -/
theorem ground_of_trod {n : Nat} {cs : List Value} {y : DataW H × List MemPlace} (h : DataW.trod enc Try.prog W base spare held n 58 cs = some y) : ∃ g : Gr, cs = [.string g.c, .string g.l, .string g.e, .slice g.a g.n g.cap] ∧ g.ok ∧ RelAt W g.a g.n := by
  obtain ⟨y0, y1, y2, y3, k, _, hl, h0, h1, h2, h3⟩ := Joins.trod_struct4 Try.underlying58 h
  rw [Try.cells58] at hl
  obtain ⟨v0, v1, v2, v3, rfl⟩ := list4 hl
  simp [Try.cells9, Try.cells48] at h0 h1 h2 h3
  obtain ⟨s0, e0, _, b0⟩ := DataW.trod_string Try.underlying9 h0
  obtain ⟨s1, e1, _, b1⟩ := DataW.trod_string Try.underlying9 h1
  obtain ⟨s2, e2, _, b2⟩ := DataW.trod_string Try.underlying9 h2
  obtain ⟨a, l, c, rfl, b3, hR⟩ := rel_of_trod h3
  simp at e0 e1 e2
  subst e0 e1 e2
  exact ⟨⟨s0, s1, s2, a, l, c⟩, rfl, ⟨b0, b1, b2, b3⟩, hR⟩

/-- A []ZGround, read: nil; or its row lies in memory. 'm': how many elements the datum holds. -/
theorem grounds_of_trod {n : Nat} {v : Value} {y : DataW H × List MemPlace} (h : DataW.trod enc Try.prog W base spare held n 25 [v] = some y) :
    (v = .slice none 0 0) ∨ ∃ (x : Addr) (len cap : Nat) (Z : Nat → Gr) (es ss : List (DataW H)), v = .slice (some x) len cap ∧ y.1 = .slice es ss ∧ es.length = len ∧ GsAt W (some x) len Z := by
  rcases Deep.open_slice Try.underlying25 h with ⟨h1, _⟩ | ⟨a, len, cap, m, k, D, Pl, h1, _, hl, hm, hmm, rfl, hx⟩
  · simp at h1
    exact Or.inl h1
  · simp at h1
    subst h1
    right
    have hlm : len ≤ m := by rw [hmm]; split <;> omega
    rw [Try.cells58] at hx
    have : Inhabited Gr := ⟨⟨{ data := #[] }, { data := #[] }, { data := #[] }, none, 0, 0⟩⟩
    obtain ⟨Z, hZ⟩ := Deep.choose_lt (α := Gr) (n := len) (p := fun i g => W.cells? base (a.add (i * 4)) 4 = some [.string g.c, .string g.l, .string g.e, .slice g.a g.n g.cap] ∧ g.ok ∧ RelAt W g.a g.n) (fun i hi => by
      obtain ⟨cs, h1, h2⟩ := hx i (by omega)
      obtain ⟨g, rfl, h3, h4⟩ := ground_of_trod h2
      exact ⟨g, h1, h3, h4⟩)
    refine ⟨a, len, cap, Z, _, _, rfl, rfl, by simp, fun hp => ?_, fun j hj => ⟨(hZ j hj).2.1, (hZ j hj).2.2⟩⟩
    obtain ⟨b, off, spot⟩ := a
    obtain ⟨_, _, c0⟩ := World.cells?_some (hZ 0 hp).1
    have h0 := c0 0 (by omega)
    have hspot : spot = none := by simpa [Addr.add] using World.cell?_spot h0
    subst hspot
    refine ⟨b, off, rfl, by simpa [Addr.add] using lt_of_cell h0, fun j hj => ?_⟩
    obtain ⟨_, _, c1⟩ := World.cells?_some (hZ j hj).1
    rw [add_plain] at c1
    have g0 := c1 0 (by omega)
    have g1 := c1 1 (by omega)
    have g2 := c1 2 (by omega)
    have g3 := c1 3 (by omega)
    rw [add_plain] at g0 g1 g2 g3
    exact ⟨g0, g1, g2, g3⟩
end
end Go.Proofs.Qxb6618971a
