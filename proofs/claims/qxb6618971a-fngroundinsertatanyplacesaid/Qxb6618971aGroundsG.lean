/-
  The two Ground laws: zzBytes_FnGroundInsertAtAnyPlace: some bool comes back.
-/
import Derived.Test.Qxb6618971aGroundsF
namespace Go.Proofs.Qxb6618971a
open Go.ChangeShapes Go.WideShapes Go.ChangeAt Go.RowKit
set_option maxRecDepth 100000 in
set_option maxHeartbeats 4000000 in
theorem bytesInsert_any (A : Option Addr) (n cap : Nat) (Z : Nat → Gr) (k : Int) (c l e : ByteArray) (a : Option Addr) (g gc : Nat) (q : ByteArray) (w : World) (hn : n ≤ maxLen) (hq : q.size ≤ maxLen) (hc : c.size ≤ maxLen) (hl : l.size ≤ maxLen) (he : e.size ≤ maxLen) (hg : g ≤ maxLen) (hG : GsAt w A n Z) (hI : RelAt w a g) :
    Calls Try.prog 14 #[.slice A n cap, .int .i64 k, .agg #[.string c, .string l, .string e, .slice a g gc], .string q] w fun en w' => IsBool en ∧ Below w.heap.size w w' := by
  have hb0 := Joins.below_alloc1 w (.cells #[.string c, .string l, .string e, .slice a g gc] 58)
  have HG : Hid (GsAt (w.alloc (.cells #[.string c, .string l, .string e, .slice a g gc] 58)) A n Z) := hG.below hb0
  have HI : Hid (RelAt (w.alloc (.cells #[.string c, .string l, .string e, .slice a g gc] 58)) a g) := hI.below hb0
  have HB : Hid (Below w.heap.size w (w.alloc (.cells #[.string c, .string l, .string e, .slice a g gc] 58))) := hb0
  unfold maxLen at hn hq hc hl he hg
  clear hG hI hb0
  by_cases hbig : 1048576 < n
  · go_enter Try.func14, Try.ntmps14
    go_wp2
    go_ret
    exact ⟨IsBool.mk _, HB.out⟩
  go_enter Try.func14, Try.ntmps14
  go_wp2
  go_loop [9, 10, 11] (fun z i _ => ∃ (j : Nat) (s : Int), j ≤ n ∧ i = .int .i64 j ∧ z = .int .i64 s ∧ 0 ≤ s ∧ s ≤ 1048576) (fun _ i _ => n - (intOf i).toNat)
  case atStart => exact ⟨0, _, Nat.zero_le _, rfl, rfl, by omega, by omega⟩
  case round =>
    obtain ⟨j, s, hj, rfl, rfl, q0, q1⟩ := hrel
    by_cases hlt : j < n
    · obtain ⟨b, o, rfl, hrow⟩ := HG.out.1 (by omega)
      obtain ⟨x1, x2, x3, x4⟩ := hrow.2 j hlt
      obtain ⟨⟨y1, y2, y3, y4⟩, hR⟩ := HG.out.2 j hlt
      have hbl := hrow.1
      clear hrow
      unfold maxLen at y1 y2 y3 y4
      have hlt' : (j : Int) < (n : Int) := by omega
      go_wp2
      any_goals (go_ret; exact ⟨IsBool.mk _, HB.out⟩)
      go_loop [9, 11] (fun z i => ∃ (m : Nat) (s : Int), m ≤ (Z j).n ∧ i = .int .i64 m ∧ z = .int .i64 s ∧ 0 ≤ s ∧ s ≤ 1048576) (fun _ i => (Z j).n - (intOf i).toNat)
      case atStart => exact ⟨0, _, Nat.zero_le _, rfl, rfl, by omega, by omega⟩
      case round =>
        obtain ⟨m, s', hm, rfl, rfl, r0, r1⟩ := hrel
        by_cases hlm : m < (Z j).n
        · obtain ⟨b', o', S, ha, hbl, hS⟩ := hR (by omega)
          rw [ha] at x4
          have z1 := (hS m hlm).1
          have z2 := (hS m hlm).2
          unfold maxLen at z2
          have hlm' : (m : Int) < ((Z j).n : Int) := by omega
          clear hS ha
          go_wp2
          any_goals (go_ret; exact ⟨IsBool.mk _, HB.out⟩)
          go_round
          case rel => exact ⟨m + 1, _, by omega, by go_num, rfl, by omega, by omega⟩
          case measure => simp [intOf]; omega
        · have hlm' : ¬ (m : Int) < ((Z j).n : Int) := by omega
          go_wp2
          go_round
          case rel => exact ⟨j + 1, _, by omega, by go_num, rfl, by omega, by omega⟩
          case measure => simp [intOf]; omega
    · have hlt' : ¬ (j : Int) < (n : Int) := by omega
      go_wp2
      any_goals (go_ret; exact ⟨IsBool.mk _, HB.out⟩)
      go_loop [9, 12] (fun z i => ∃ (m : Nat) (s : Int), m ≤ g ∧ i = .int .i64 m ∧ z = .int .i64 s ∧ 0 ≤ s ∧ s ≤ 1048576) (fun _ i => g - (intOf i).toNat)
      case atStart => exact ⟨0, _, Nat.zero_le _, rfl, rfl, by omega, by omega⟩
      case round =>
        obtain ⟨m, s', hm, rfl, rfl, r0, r1⟩ := hrel
        by_cases hlm : m < g
        · obtain ⟨b', o', S, rfl, hbl, hS⟩ := HI.out (by omega)
          have z1 := (hS m hlm).1
          have z2 := (hS m hlm).2
          unfold maxLen at z2
          have hlm' : (m : Int) < (g : Int) := by omega
          clear hS
          go_wp2
          any_goals (go_ret; exact ⟨IsBool.mk _, HB.out⟩)
          go_round
          case rel => exact ⟨m + 1, _, by omega, by go_num, rfl, by omega, by omega⟩
          case measure => simp [intOf]; omega
        · have hlm' : ¬ (m : Int) < (g : Int) := by omega
          go_wp2
          all_goals
            go_ret
            exact ⟨IsBool.mk _, HB.out⟩
end Go.Proofs.Qxb6618971a
