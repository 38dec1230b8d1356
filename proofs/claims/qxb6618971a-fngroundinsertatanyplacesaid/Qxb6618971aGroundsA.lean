/-
  The two Ground laws: the leaves: what a ground is in memory; zzAddLen, zzToRule, the closure of (*Rulebook).Ground.
-/
import Derived.Test.Qxb6618971aProg
import Derived.WalkKit
import Derived.ProofKit
import Derived.Outline
import Derived.Deep.LoopGhost
namespace Go.Proofs.Qxb6618971a
open Go.ChangeShapes Go.WideShapes Go.ChangeAt Go.RowKit

/-- A ground as a value: three strings and the header of its []string. -/
structure Gr where
  c : ByteArray
  l : ByteArray
  e : ByteArray
  a : Option Addr
  n : Nat
  cap : Nat

/-- The strings behind the header lie in memory. -/
def RelAt (w : World) (a : Option Addr) (n : Nat) : Prop :=
  0 < n → ∃ (b o : Nat) (S : Nat → ByteArray), a = some ⟨b, o, none⟩ ∧ b < w.heap.size ∧ ∀ i, i < n → w.cell? ⟨b, o + i, none⟩ = some (.string (S i)) ∧ (S i).size ≤ maxLen

/-- The lengths of a ground are lengths that Go can have. -/
def Gr.ok (g : Gr) : Prop := g.c.size ≤ maxLen ∧ g.l.size ≤ maxLen ∧ g.e.size ≤ maxLen ∧ g.n ≤ maxLen

/-- Ground j lies in the four cells from 'o + j * 4' on of block b. -/
def CellsAt (w : World) (b o : Nat) (g : Gr) : Prop :=
  w.cell? ⟨b, o, none⟩ = some (.string g.c) ∧ w.cell? ⟨b, o + 1, none⟩ = some (.string g.l) ∧ w.cell? ⟨b, o + 2, none⟩ = some (.string g.e) ∧ w.cell? ⟨b, o + 3, none⟩ = some (.slice g.a g.n g.cap)

/-- A row of n grounds from offset o on of block b. -/
def RowAt (w : World) (b o n : Nat) (Z : Nat → Gr) : Prop := b < w.heap.size ∧ ∀ j, j < n → CellsAt w b (o + j * 4) (Z j)

theorem RelAt.below {w w' : World} {a : Option Addr} {n : Nat} (h : RelAt w a n) (hb : Below w.heap.size w w') : RelAt w' a n := fun hn => by
  obtain ⟨b, o, S, h1, h2, h3⟩ := h hn
  exact ⟨b, o, S, h1, Nat.lt_of_lt_of_le h2 hb.size, fun i hi => ⟨(hb.cell (p := ⟨b, o + i, none⟩) h2).trans (h3 i hi).1, (h3 i hi).2⟩⟩

theorem RowAt.below {w w' : World} {b o n : Nat} {Z : Nat → Gr} (h : RowAt w b o n Z) (hb : Below w.heap.size w w') : RowAt w' b o n Z :=
  ⟨Nat.lt_of_lt_of_le h.1 hb.size, fun j hj => by
    obtain ⟨h1, h2, h3, h4⟩ := h.2 j hj
    exact ⟨(hb.cell (p := ⟨b, _, none⟩) h.1).trans h1, (hb.cell (p := ⟨b, _, none⟩) h.1).trans h2, (hb.cell (p := ⟨b, _, none⟩) h.1).trans h3, (hb.cell (p := ⟨b, _, none⟩) h.1).trans h4⟩⟩

/-- The part of a row from k on. -/
theorem RowAt.from {w : World} {b o n : Nat} {Z : Nat → Gr} (h : RowAt w b o n Z) (k : Nat) : RowAt w b (o + k * 4) (n - k) (fun j => Z (k + j)) :=
  ⟨h.1, fun j hj => by
    have := h.2 (k + j) (by omega)
    rwa [show o + (k + j) * 4 = o + k * 4 + j * 4 by omega] at this⟩

theorem RowAt.upto {w : World} {b o n : Nat} {Z : Nat → Gr} (h : RowAt w b o n Z) {k : Nat} (hk : k ≤ n) : RowAt w b o k Z := ⟨h.1, fun j hj => h.2 j (by omega)⟩

set_option maxHeartbeats 400000 in
theorem addLen_any (t n : Int) (w : World) (t0 : 0 ≤ t) (t1 : t ≤ 2097152) (n0 : 0 ≤ n) (n1 : n ≤ 9223372036854775807) :
    Calls Try.prog 10 #[.int .i64 t, .int .i64 n] w fun e w' => ∃ r : Int, e = .returned (.int .i64 r) ∧ 0 ≤ r ∧ r ≤ 2097152 ∧ w' = w := by
  by_cases h1 : 1048576 < t
  · go_enter Try.func10, Try.ntmps10
    go_wp2
    go_ret
    exact ⟨_, rfl, by omega, by omega, rfl⟩
  · by_cases h2 : 1048576 < n
    · go_enter Try.func10, Try.ntmps10
      go_wp2
      go_ret
      exact ⟨_, rfl, by omega, by omega, rfl⟩
    · go_enter Try.func10, Try.ntmps10
      go_wp2
      go_ret
      exact ⟨_, rfl, by omega, by omega, rfl⟩

set_option maxHeartbeats 400000 in
theorem toRule_any (c l e : ByteArray) (a : Option Addr) (n cap : Nat) (w : World) :
    Calls Try.prog 16 #[.agg #[.string c, .string l, .string e, .slice a n cap]] w fun en w' => en = .returned (.agg #[.string c, .string l, .string e, .slice a n cap]) ∧ Below w.heap.size w w' := by
  go_enter Try.func16, Try.ntmps16
  go_wp2
  exact bodyPost_ret (v := .agg #[.string c, .string l, .string e, .slice a n cap]) (by simp [results, Try.results16, go_sem]) rfl ⟨rfl, ((Below.refl _ _).alloc (Nat.le_refl _) _).alloc (by simp) _⟩

set_option maxHeartbeats 400000 in
theorem pred_any (c l e q : ByteArray) (a : Option Addr) (n cap : Nat) (B : Nat) (w : World) (hB : B < w.heap.size) (hq : w.cell? ⟨B, 0, none⟩ = some (.string q)) :
    Calls Try.prog 19 #[.agg #[.string c, .string l, .string e, .slice a n cap], .pointer (some ⟨B, 0, none⟩)] w fun en w' => en = .returned (.bool (c.toList == q.toList)) ∧ Below w.heap.size w w' := by
  have hne : B ≠ w.heap.size := by omega
  go_enter Try.func19, Try.ntmps19
  go_wp2
  go_ret
  exact ⟨rfl, (Below.refl _ _).alloc (Nat.le_refl _) _⟩
end Go.Proofs.Qxb6618971a
