/-
  The two Ground laws: zzBytes_FnGroundJoinAtAnyCut: some bool comes back.
-/
import Derived.Test.Qxb6618971aGroundsE
namespace Go.Proofs.Qxb6618971a
open Go.ChangeShapes Go.WideShapes Go.ChangeAt Go.RowKit
/-- Some bool comes back. -/
def IsBool (e : Ending) : Prop := ∃ r : Bool, e = .returned (.bool r)
theorem IsBool.mk (r : Bool) : IsBool (.returned (.bool r)) := ⟨r, rfl⟩

set_option maxRecDepth 100000 in
set_option maxHeartbeats 2000000 in
theorem bytesJoin_any (A : Option Addr) (n cap : Nat) (Z : Nat → Gr) (k : Int) (q : ByteArray) (w : World) (hn : n ≤ maxLen) (hq : q.size ≤ maxLen) (hG : GsAt w A n Z) :
    Calls Try.prog 8 #[.slice A n cap, .int .i64 k, .string q] w fun en w' => IsBool en ∧ w' = w := by
  unfold maxLen at hn hq
  have HG : Hid (GsAt w A n Z) := hG
  clear hG
  by_cases hbig : 1048576 < n
  · go_enter Try.func8, Try.ntmps8
    go_wp2
    go_ret
    exact ⟨IsBool.mk _, rfl⟩
  go_enter Try.func8, Try.ntmps8
  go_wp2
  go_loop [7, 8, 9] (fun z i _ => ∃ (j : Nat) (s : Int), j ≤ n ∧ i = .int .i64 j ∧ z = .int .i64 s ∧ 0 ≤ s ∧ s ≤ 1048576) (fun _ i _ => n - (intOf i).toNat)
  case atStart => exact ⟨0, _, Nat.zero_le _, rfl, rfl, by omega, by omega⟩
  case round =>
    obtain ⟨j, s, hj, rfl, rfl, q0, q1⟩ := hrel
    by_cases hlt : j < n
    · obtain ⟨b, o, rfl, hrow⟩ := HG.out.1 (by omega)
      obtain ⟨x1, x2, x3, x4⟩ := hrow.2 j hlt
      obtain ⟨⟨y1, y2, y3, y4⟩, hR⟩ := HG.out.2 j hlt
      clear hrow
      unfold maxLen at y1 y2 y3 y4
      have hlt' : (j : Int) < (n : Int) := by omega
      go_wp2
      any_goals (go_ret; exact ⟨IsBool.mk _, rfl⟩)
      go_loop [7, 9] (fun z i => ∃ (m : Nat) (s : Int), m ≤ (Z j).n ∧ i = .int .i64 m ∧ z = .int .i64 s ∧ 0 ≤ s ∧ s ≤ 1048576) (fun _ i => (Z j).n - (intOf i).toNat)
      case atStart => exact ⟨0, _, Nat.zero_le _, rfl, rfl, by omega, by omega⟩
      case round =>
        obtain ⟨m, s', hm, rfl, rfl, r0, r1⟩ := hrel
        by_cases hlm : m < (Z j).n
        · obtain ⟨b', o', S, ha, hbl, hS⟩ := hR (by omega)
          rw [ha] at x4
          have z1 := (hS m hlm).1
          have z2 := (hS m hlm).2
          unfold maxLen at z2
          have hlm' : (m : Int) < ((Z j).n : Int) := by omega
          clear hS ha
          go_wp2
          any_goals (go_ret; exact ⟨IsBool.mk _, rfl⟩)
          go_round
          case rel => exact ⟨m + 1, _, by omega, by go_num, rfl, by omega, by omega⟩
          case measure => simp [intOf]; omega
        · have hlm' : ¬ (m : Int) < ((Z j).n : Int) := by omega
          go_wp2
          go_round
          case rel => exact ⟨j + 1, _, by omega, by go_num, rfl, by omega, by omega⟩
          case measure => simp [intOf]; omega
    · have hlt' : ¬ (j : Int) < (n : Int) := by omega
      go_wp2
      all_goals
        go_ret
        exact ⟨IsBool.mk _, rfl⟩
end Go.Proofs.Qxb6618971a
