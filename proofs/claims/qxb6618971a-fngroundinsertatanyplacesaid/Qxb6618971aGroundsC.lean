/-
  The two Ground laws: zzGroundsBytes, zzSameGround at one ground twice, slices.IndexFunc over the closure of (*Rulebook).Ground (found at m; not found).
-/
import Derived.Test.Qxb6618971aGroundsB
import Derived.RegionTactic
import Derived.ChangeAlike
import Derived.Deep.QuietTactic
import Derived.BigQuiet
import Derived.WalkSpells
import Derived.Lib.SmallJoins
namespace Go.Proofs.Qxb6618971a
open Go.ChangeShapes Go.WideShapes Go.ChangeAt Go.RowKit

set_option maxHeartbeats 1000000 in
theorem groundsBytes_any (t : Int) (A : Option Addr) (n cap : Nat) (Z : Nat → Gr) (w : World) (t0 : 0 ≤ t) (t1 : t ≤ 2097152) (hn : n ≤ maxLen) (hG : GsAt w A n Z) :
    Calls Try.prog 9 #[.int .i64 t, .slice A n cap] w fun en w' => ∃ r : Int, en = .returned (.int .i64 r) ∧ 0 ≤ r ∧ r ≤ 2097152 ∧ Below w.heap.size w w' := by
  unfold maxLen at hn
  go_enter Try.func9, Try.ntmps9
  go_wp2
  go_loopw [0, 5] (fun t j wr => ∃ (k : Nat) (r : Int), k ≤ n ∧ j = .int .i64 k ∧ t = .int .i64 r ∧ 0 ≤ r ∧ r ≤ 2097152 ∧ Below w.heap.size w wr) (fun _ j _ => n - (intOf j).toNat)
  case atStart => exact ⟨0, _, Nat.zero_le _, rfl, rfl, by omega, by omega, Below.refl _ _⟩
  case round =>
    obtain ⟨k, r, hk, rfl, rfl, q0, q1, hb⟩ := hrel
    by_cases hlt : k < n
    · obtain ⟨b, o, rfl, hrow⟩ := hG.1 (by omega)
      obtain ⟨x1, x2, x3, x4⟩ := (hrow.below hb).2 k hlt
      obtain ⟨⟨y1, y2, y3, y4⟩, hR⟩ := (hG.below hb).2 k hlt
      by_cases hr : r ≤ 1048576
      · go_wp2_with (go_at_call 15; refine (addGround_any _ _ _ _ _ _ _ _ q0 q1 y1 y2 y3 y4 hR).mono ?_; rintro e w' ⟨r', rfl, r0, r1, hb'⟩)
        go_roundw
        case rel => exact ⟨k + 1, _, by omega, by go_num, rfl, r0, r1, hb.trans (hb'.mono hb.size)⟩
        case measure => simp [intOf]; omega
      · go_wp2
        go_ret
        exact ⟨_, rfl, q0, q1, hb⟩
    · go_wp2
      go_ret
      exact ⟨_, rfl, q0, q1, hb⟩

set_option maxHeartbeats 1000000 in
theorem same_any (c l e : ByteArray) (a : Option Addr) (n cap : Nat) (w : World) (hn : n ≤ maxLen) (hR : RelAt w a n) :
    Calls Try.prog 13 #[.agg #[.string c, .string l, .string e, .slice a n cap], .agg #[.string c, .string l, .string e, .slice a n cap]] w fun en w' => en = .returned (.bool true) ∧ Below w.heap.size w w' := by
  unfold maxLen at hn
  have hnil := fun (w : World) => Lib.run_eql_slice_nil (P := Try.prog) w 48 9 a n cap 0 0 Try.underlying48
  go_enter Try.func13, Try.ntmps13
  go_wp2
  clear hnil
  go_loopw [5] (fun j wr => ∃ (k : Nat), k ≤ n ∧ j = .int .i64 k ∧ wr.cell? ⟨w.heap.size, 3, none⟩ = some (.slice a n cap) ∧ wr.cell? ⟨w.heap.size + 1, 3, none⟩ = some (.slice a n cap) ∧ Below w.heap.size w wr) (fun j _ => n - (intOf j).toNat)
  case atStart => exact ⟨0, Nat.zero_le _, rfl, by simp, by simp, ((Below.refl _ _).alloc (Nat.le_refl _) _).alloc (by simp) _⟩
  case round =>
    obtain ⟨k, hk, rfl, g1, g2, hb⟩ := hrel
    by_cases hlt : k < n
    · obtain ⟨b, o, S, rfl, hbl, hS⟩ := hR (by omega)
      have hx := (hb.cell (p := ⟨b, o + k, none⟩) hbl).trans (hS k hlt).1
      have hlt' : (k : Int) < (n : Int) := by omega
      have hk0 : (0 : Int) ≤ (k : Int) := by omega
      go_wp2
      go_quiet (fail)
      go_wp2
      go_roundw
      case rel => exact ⟨k + 1, by omega, by go_num, g1, g2, hb.trans (Joins.below_draws _ _ _)⟩
      case measure => simp [intOf]; omega
    · go_wp2
      go_ret
      exact ⟨rfl, hb⟩

set_option maxHeartbeats 1000000 in
theorem index_hit (A : Option Addr) (n cap : Nat) (Z : Nat → Gr) (q : ByteArray) (B : Nat) (w : World) (hn : n ≤ maxLen) (hB : B < w.heap.size) (hq : w.cell? ⟨B, 0, none⟩ = some (.string q))
    (hrow : 0 < n → ∃ b o, A = some ⟨b, o, none⟩ ∧ RowAt w b o n Z) (m : Nat) (hm : m < n) (hbef : ∀ j, j < m → ((Z j).c.toList == q.toList) = false) (hat : ((Z m).c.toList == q.toList) = true) :
    Calls Try.prog 18 #[.slice A n cap, .func (.func 19) #[] #[.pointer (some ⟨B, 0, none⟩)]] w fun en w' => en = .returned (.int .i64 (m : Int)) ∧ Below w.heap.size w w' := by
  unfold maxLen at hn
  obtain ⟨b, o, rfl, hr⟩ := hrow (by omega)
  have HB : Hid (∀ j, j < m → ((Z j).c.toList == q.toList) = false) := hbef
  have HR : Hid (RowAt w b o n Z) := hr
  have HA : Hid (((Z m).c.toList == q.toList) = true) := hat
  clear hbef hr hrow hat
  go_enter Try.func18, Try.ntmps18
  go_wp2
  go_loopw [5, 8] (fun _ j wr => ∃ (k : Nat), k ≤ m ∧ j = .int .i64 k ∧ Below w.heap.size w wr) (fun _ j _ => n - (intOf j).toNat)
  case atStart => exact ⟨0, Nat.zero_le _, rfl, Below.refl _ _⟩
  case round =>
    obtain ⟨k, hk, rfl, hb⟩ := hrel
    obtain ⟨x1, x2, x3, x4⟩ := (HR.out.below hb).2 k (by omega)
    have hq' := (hb.cell (p := ⟨B, 0, none⟩) hB).trans hq
    have hB' : B < wr.heap.size := Nat.lt_of_lt_of_le hB hb.size
    have hcall := pred_any (Z k).c (Z k).l (Z k).e q (Z k).a (Z k).n (Z k).cap B wr hB' hq'
    have hlt' : (k : Int) < (n : Int) := by omega
    by_cases hkm : k = m
    · subst hkm
      rw [HA.out] at hcall
      go_wp2_with (go_at_call 19; refine hcall.mono ?_; rintro e w' ⟨rfl, hb'⟩)
      go_ret
      exact ⟨rfl, hb.trans (hb'.mono hb.size)⟩
    · rw [HB.out k (by omega)] at hcall
      go_wp2_with (go_at_call 19; refine hcall.mono ?_; rintro e w' ⟨rfl, hb'⟩)
      go_roundw
      case rel => exact ⟨k + 1, by omega, by go_num, hb.trans (hb'.mono hb.size)⟩
      case measure => simp [intOf]; omega

set_option maxHeartbeats 1000000 in
theorem index_miss (A : Option Addr) (n cap : Nat) (Z : Nat → Gr) (q : ByteArray) (B : Nat) (w : World) (hn : n ≤ maxLen) (hB : B < w.heap.size) (hq : w.cell? ⟨B, 0, none⟩ = some (.string q))
    (hrow : 0 < n → ∃ b o, A = some ⟨b, o, none⟩ ∧ RowAt w b o n Z) (hbef : ∀ j, j < n → ((Z j).c.toList == q.toList) = false) :
    Calls Try.prog 18 #[.slice A n cap, .func (.func 19) #[] #[.pointer (some ⟨B, 0, none⟩)]] w fun en w' => en = .returned (.int .i64 (-1)) ∧ Below w.heap.size w w' := by
  unfold maxLen at hn
  have HB : Hid (∀ j, j < n → ((Z j).c.toList == q.toList) = false) := hbef
  have HR : Hid (0 < n → ∃ b o, A = some ⟨b, o, none⟩ ∧ RowAt w b o n Z) := hrow
  clear hbef hrow
  go_enter Try.func18, Try.ntmps18
  go_wp2
  go_loopw [5, 8] (fun _ j wr => ∃ (k : Nat), k ≤ n ∧ j = .int .i64 k ∧ Below w.heap.size w wr) (fun _ j _ => n - (intOf j).toNat)
  case atStart => exact ⟨0, Nat.zero_le _, rfl, Below.refl _ _⟩
  case round =>
    obtain ⟨k, hk, rfl, hb⟩ := hrel
    by_cases hlt : k < n
    · obtain ⟨b, o, rfl, hr⟩ := HR.out (by omega)
      obtain ⟨x1, x2, x3, x4⟩ := (hr.below hb).2 k (by omega)
      clear hr
      have hq' := (hb.cell (p := ⟨B, 0, none⟩) hB).trans hq
      have hB' : B < wr.heap.size := Nat.lt_of_lt_of_le hB hb.size
      have hcall := pred_any (Z k).c (Z k).l (Z k).e q (Z k).a (Z k).n (Z k).cap B wr hB' hq'
      have hlt' : (k : Int) < (n : Int) := by omega
      rw [HB.out k (by omega)] at hcall
      go_wp2_with (go_at_call 19; refine hcall.mono ?_; rintro e w' ⟨rfl, hb'⟩)
      go_roundw
      case rel => exact ⟨k + 1, by omega, by go_num, hb.trans (hb'.mono hb.size)⟩
      case measure => simp [intOf]; omega
    · go_wp2
      go_ret
      exact ⟨rfl, hb⟩
end Go.Proofs.Qxb6618971a
