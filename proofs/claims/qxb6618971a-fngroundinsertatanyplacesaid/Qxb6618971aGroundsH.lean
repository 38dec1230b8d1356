/-
  The two Ground laws: a Rulebook in memory whose field Grounds is a slice of grounds; what Ground answers on it; zzToRules at nil.
-/
import Derived.Test.Qxb6618971aGroundsD
import Derived.Test.Qxb6618971aGroundsG
namespace Go.Proofs.Qxb6618971a
open Go.ChangeShapes Go.WideShapes Go.ChangeAt Go.RowKit

/-- Block R is a Rulebook whose Grounds are the n grounds Z. -/
def BookAt (w : World) (R : Nat) (A : Option Addr) (n c : Nat) (Z : Nat → Gr) : Prop :=
  R < w.heap.size ∧ w.cell? ⟨R, 16, none⟩ = some (.slice A n c) ∧ (0 < n → ∃ b o, A = some ⟨b, o, none⟩ ∧ RowAt w b o n Z)

theorem BookAt.below {w w' : World} {R n c : Nat} {A : Option Addr} {Z : Nat → Gr} (h : BookAt w R A n c Z) (hb : Below w.heap.size w w') : BookAt w' R A n c Z :=
  ⟨Nat.lt_of_lt_of_le h.1 hb.size, (hb.cell (p := ⟨R, 16, none⟩) h.1).trans h.2.1, fun hn => by obtain ⟨b, o, h1, h2⟩ := h.2.2 hn; exact ⟨b, o, h1, h2.below hb⟩⟩

theorem BookAt.alloc {w : World} {R n c : Nat} {A : Option Addr} {Z : Nat → Gr} (h : BookAt w R A n c Z) (o : Obj) : BookAt (w.alloc o) R A n c Z := h.below (Joins.below_alloc1 w o)

theorem book_hit {w : World} {R n c : Nat} {A : Option Addr} {Z : Nat → Gr} (h : BookAt w R A n c Z) (hn : n ≤ maxLen) (q : ByteArray) (m : Nat) (hm : m < n) (hbef : ∀ j, j < m → ((Z j).c.toList == q.toList) = false) (hat : ((Z m).c.toList == q.toList) = true) :
    Calls Try.prog 12 #[.pointer (some ⟨R, 0, none⟩), .string q] w fun en w' => en = .returned (.tuple #[.agg #[.string (Z m).c, .string (Z m).l, .string (Z m).e, .slice (Z m).a (Z m).n (Z m).cap], .bool true]) ∧ Below w.heap.size w w' :=
  ground_hit A n c Z q R w hn h.1 h.2.1 h.2.2 m hm hbef hat

theorem book_miss {w : World} {R n c : Nat} {A : Option Addr} {Z : Nat → Gr} (h : BookAt w R A n c Z) (hn : n ≤ maxLen) (q : ByteArray) (hbef : ∀ j, j < n → ((Z j).c.toList == q.toList) = false) :
    Calls Try.prog 12 #[.pointer (some ⟨R, 0, none⟩), .string q] w fun en w' => en = .returned (.tuple #[.agg #[.string { data := #[] }, .string { data := #[] }, .string { data := #[] }, .slice none 0 0], .bool false]) ∧ Below w.heap.size w w' :=
  ground_miss A n c Z q R w hn h.1 h.2.1 h.2.2 hbef

theorem book_some {w : World} {R n c : Nat} {A : Option Addr} {Z : Nat → Gr} (h : BookAt w R A n c Z) (hn : n ≤ maxLen) (q : ByteArray) :
    Calls Try.prog 12 #[.pointer (some ⟨R, 0, none⟩), .string q] w fun en w' => (∃ (c l e : ByteArray) (a : Option Addr) (k kc : Nat) (r : Bool), en = .returned (.tuple #[.agg #[.string c, .string l, .string e, .slice a k kc], .bool r])) ∧ Below w.heap.size w w' :=
  ground_some A n c Z q R w hn h.1 h.2.1 h.2.2

set_option maxHeartbeats 400000 in
theorem toRules_nil (w : World) : Calls Try.prog 11 #[.slice none 0 0] w fun en w' => en = .returned (.slice none 0 0) ∧ w = w' := by
  have hnil := fun (w : World) => Lib.run_eql_slice_nil (P := Try.prog) w 25 58 none 0 0 0 0 Try.underlying25
  simp only [Option.isNone_none] at hnil
  go_enter Try.func11, Try.ntmps11
  go_wp2
  go_ret
  exact ⟨rfl, rfl⟩
end Go.Proofs.Qxb6618971a
