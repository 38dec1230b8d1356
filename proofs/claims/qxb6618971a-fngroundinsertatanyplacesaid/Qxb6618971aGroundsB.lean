/-
  The two Ground laws: a list of grounds that came in or was made; zzAddGround counts a ground: some int within bounds; nothing old has turned.
-/
import Derived.Test.Qxb6618971aGroundsA
namespace Go.Proofs.Qxb6618971a
open Go.ChangeShapes Go.WideShapes Go.ChangeAt Go.RowKit

/-- A slice of n grounds whose array begins at A: its row, and what its headers lead to, lie in memory. -/
def GsAt (w : World) (A : Option Addr) (n : Nat) (Z : Nat → Gr) : Prop :=
  (0 < n → ∃ b o, A = some ⟨b, o, none⟩ ∧ RowAt w b o n Z) ∧ ∀ j, j < n → (Z j).ok ∧ RelAt w (Z j).a (Z j).n

theorem GsAt.below {w w' : World} {A : Option Addr} {n : Nat} {Z : Nat → Gr} (h : GsAt w A n Z) (hb : Below w.heap.size w w') : GsAt w' A n Z :=
  ⟨fun hn => by obtain ⟨b, o, h1, h2⟩ := h.1 hn; exact ⟨b, o, h1, h2.below hb⟩, fun j hj => ⟨(h.2 j hj).1, (h.2 j hj).2.below hb⟩⟩

set_option maxHeartbeats 1000000 in
theorem addGround_any (t : Int) (c l e : ByteArray) (a : Option Addr) (n cap : Nat) (w : World) (t0 : 0 ≤ t) (t1 : t ≤ 2097152) (hc : c.size ≤ maxLen) (hl : l.size ≤ maxLen) (he : e.size ≤ maxLen) (hn : n ≤ maxLen) (hR : RelAt w a n) :
    Calls Try.prog 15 #[.int .i64 t, .agg #[.string c, .string l, .string e, .slice a n cap]] w fun en w' => ∃ r : Int, en = .returned (.int .i64 r) ∧ 0 ≤ r ∧ r ≤ 2097152 ∧ Below w.heap.size w w' := by
  unfold maxLen at hc hl he hn
  go_enter Try.func15, Try.ntmps15
  go_wp2_with (go_at_call 10; refine (addLen_any _ _ _ (by omega) (by omega) (by omega) (by omega)).mono ?_; rintro e w' ⟨r, rfl, r0, r1, rfl⟩)
  go_loop [0, 5] (fun t j => ∃ (k : Nat) (r : Int), k ≤ n ∧ j = .int .i64 k ∧ t = .int .i64 r ∧ 0 ≤ r ∧ r ≤ 2097152) (fun _ j => n - (intOf j).toNat)
  case atStart => exact ⟨0, _, Nat.zero_le _, rfl, rfl, by omega, by omega⟩
  case round =>
    obtain ⟨k, r, hk, rfl, rfl, q0, q1⟩ := hrel
    by_cases hlt : k < n
    · obtain ⟨b, o, S, rfl, hb, hS⟩ := hR (by omega)
      have hx := (hS k hlt).1
      have hy := (hS k hlt).2
      unfold maxLen at hy
      have hne : b ≠ w.heap.size := by omega
      by_cases hr : r ≤ 1048576
      · go_wp2_with (go_at_call 10; refine (addLen_any _ _ _ (by omega) (by omega) (by omega) (by omega)).mono ?_; rintro e w' ⟨r, rfl, r0, r1, rfl⟩)
        go_round
        case rel => exact ⟨k + 1, _, by omega, by go_num, rfl, by omega, by omega⟩
        case measure => simp [intOf]; omega
      · go_wp2
        go_ret
        exact ⟨_, rfl, q0, q1, (Below.refl _ _).alloc (Nat.le_refl _) _⟩
    · go_wp2
      go_ret
      exact ⟨_, rfl, q0, q1, (Below.refl _ _).alloc (Nat.le_refl _) _⟩
end Go.Proofs.Qxb6618971a
