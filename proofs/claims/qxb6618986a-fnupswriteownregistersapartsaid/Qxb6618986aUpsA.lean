/-
  The two Ups laws: upsilonProcess.write, Value.IsBottom, ZZupsWrite: contracts.
-/
import Derived.Test.Qxb6618986aProg
import Derived.WalkKit
import Derived.ProofKit
import Derived.Outline
import Derived.Deep.RegionHeld
import Derived.Lib.SmallJoins
namespace Go.Proofs.Qxb6618986a
open Go.ChangeShapes Go.WideShapes Go.ChangeAt Go.RowKit

set_option maxRecDepth 100000 in
set_option maxHeartbeats 400000 in
theorem write_any (id reg : Int) (f : Bool) (B : Nat) (w : World) (h0 : 1 ≤ id) (h1 : id ≤ 65536) (h2 : -536870912 ≤ reg) (h3 : reg ≤ 536870912) (hB : B < w.heap.size) (hc : w.cell? ⟨B, 1, none⟩ = some (.int .i64 id)) :
    Calls Try.prog 25 #[.pointer (some ⟨B, 0, none⟩), .int .i64 reg, .iface 79 (.bool f)] w fun e w' => e = .returned (.agg #[.int .u8 2, .int .i64 (reg + (id - 1)), .int .i64 0, .int .i64 0, .iface 79 (.bool f), .int .i64 0, .bool false, .int .i64 0]) ∧ Below w.heap.size w w' := by
  have hne : B ≠ w.heap.size := by omega
  go_enter Try.func25, Try.ntmps25
  go_wp2
  exact bodyPost_ret (v := .agg #[.int .u8 2, .int .i64 (reg + (id - 1)), .int .i64 0, .int .i64 0, .iface 79 (.bool f), .int .i64 0, .bool false, .int .i64 0]) (by simp [results, Try.results25, go_sem]) rfl ⟨rfl, (Below.refl _ _).alloc (Nat.le_refl _) _⟩

set_option maxRecDepth 100000 in
set_option maxHeartbeats 400000 in
theorem isBottom_any (x : Int) (s : Bool) (w : World) :
    Calls Try.prog 26 #[.agg #[.int .i64 x, .bool s]] w fun e w' => e = .returned (.bool (!s)) ∧ w' = w.alloc (.cells #[.int .i64 x, .bool s] 56) := by
  go_enter Try.func26, Try.ntmps26
  go_wp2
  go_ret
  exact ⟨rfl, rfl⟩

theorem assert79 (W : World) (v : Value) : (Instr.typeAssert (.iface 79 v) 62 79 true).run Try.prog W = .ok (.tuple #[v, .bool true]) W := by kernel_rfl

set_option maxRecDepth 100000 in
set_option maxHeartbeats 1000000 in
theorem upsWrite_any (n id reg : Int) (f : Bool) (w : World) (h0 : 1 ≤ id) (h1 : id ≤ 65536) (h2 : -536870912 ≤ reg) (h3 : reg ≤ 536870912) :
    Calls Try.prog 16 #[.int .i64 n, .int .i64 id, .int .i64 reg, .bool f] w fun e w' => e = .returned (.tuple #[.int .u8 2, .int .i64 (reg + (id - 1)), .int .i64 0, .int .i64 0, .bool true, .bool f, .bool true, .int .i64 0]) ∧ Below w.heap.size w w' := by
  have has := assert79
  go_enter Try.func16, Try.ntmps16
  go_wp2_with fail
  refine (write_any id reg f _ _ h0 h1 h2 h3 (by simp) (by simp)).mono ?_
  rintro e w2 ⟨rfl, hb2⟩
  have hb : Below w.heap.size w w2 := (Joins.below_alloc2 w _ _).trans (hb2.mono (by simp; omega))
  clear hb2
  go_wp2
  go_region_held (fun w' => w'.cell? ⟨w2.heap.size, 0, none⟩ = some (.int .u8 2) ∧ w'.cell? ⟨w2.heap.size, 1, none⟩ = some (.int .i64 (reg + (id - 1))) ∧ w'.cell? ⟨w2.heap.size, 2, none⟩ = some (.int .i64 0) ∧ w'.cell? ⟨w2.heap.size, 3, none⟩ = some (.int .i64 0) ∧ w'.cell? ⟨w2.heap.size, 5, none⟩ = some (.int .i64 0) ∧ w'.cell? ⟨w2.heap.size, 6, none⟩ = some (.bool false) ∧ w'.cell? ⟨w2.heap.size, 7, none⟩ = some (.int .i64 0)) (go_keep) (first | (go_at_call 26; refine (isBottom_any _ _ _).mono ?_; rintro e w' ⟨rfl, rfl⟩))
  go_wp2
  exact bodyPost_ret (v := .tuple #[.int .u8 2, .int .i64 (reg + (id - 1)), .int .i64 0, .int .i64 0, .bool true, .bool f, .bool true, .int .i64 0]) (by simp [results, Try.results16, go_sem]) rfl ⟨rfl, ((hb.alloc hb.size _).alloc (by have := hb.size; simp; omega) _).drew⟩
end Go.Proofs.Qxb6618986a
