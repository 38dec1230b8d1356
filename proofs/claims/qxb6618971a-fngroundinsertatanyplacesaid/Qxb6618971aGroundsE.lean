/-
  The two Ground laws: a row of grounds that the call makes; zzToRules at a slice that is not nil.
-/
import Derived.Test.Qxb6618971aGroundsC
namespace Go.Proofs.Qxb6618971a
open Go.ChangeShapes Go.WideShapes Go.ChangeAt Go.RowKit

theorem Try.info61 : (Try.prog.info? 61).map (fun i => (i.zero, i.size, i.bytes)) = some (some (.agg #[.string { data := #[] }, .string { data := #[] }, .string { data := #[] }, .slice none 0 0]), 4, 72) := by kernel_rfl

/-- A row of n grounds that the call makes, the first k of them laid. -/
def Making (w : World) (B n k : Nat) (Z : Nat → Gr) : Prop :=
  B < w.heap.size ∧ (∀ j, j < n * 4 → (w.cell? ⟨B, j, none⟩).isSome = true ∧ w.frozen? ⟨B, j, none⟩ = false) ∧ ∀ j, j < k → CellsAt w B (j * 4) (Z j)

theorem Making.start (w : World) (z : Array Value) (n : Nat) (Z : Nat → Gr) : Making (w.alloc (.cells (madeCells z (n * 4)) 61)) w.heap.size n 0 Z := by
  refine ⟨by simp, fun j hj => ⟨?_, by simp⟩, fun j hj => absurd hj (Nat.not_lt_zero _)⟩
  rw [World.cell?_alloc_new, Array.getElem?_eq_getElem (by rw [size_madeCells]; exact hj)]
  rfl

theorem Making.below {w w' : World} {B n k : Nat} {Z : Nat → Gr} (h : Making w B n k Z) (hb : Below w.heap.size w w') : Making w' B n k Z := by
  obtain ⟨h1, h2, h3⟩ := h
  refine ⟨Nat.lt_of_lt_of_le h1 hb.size, fun j hj => ?_, fun j hj => ?_⟩
  · rw [hb.cell (p := ⟨B, j, none⟩) h1, hb.frozen (p := ⟨B, j, none⟩) h1]
    exact h2 j hj
  · obtain ⟨y1, y2, y3, y4⟩ := h3 j hj
    exact ⟨(hb.cell (p := ⟨B, _, none⟩) h1).trans y1, (hb.cell (p := ⟨B, _, none⟩) h1).trans y2, (hb.cell (p := ⟨B, _, none⟩) h1).trans y3, (hb.cell (p := ⟨B, _, none⟩) h1).trans y4⟩

theorem cell_set_ne {w : World} {B i j : Nat} (v : Value) (h : i ≠ j) : (w.setCell ⟨B, i, none⟩ v).cell? ⟨B, j, none⟩ = w.cell? ⟨B, j, none⟩ :=
  World.cell?_setCell_other _ _ _ _ (by intro e; injection e; omega)

theorem cell_set_some {w : World} {B i j : Nat} (v : Value) (h : (w.cell? ⟨B, j, none⟩).isSome = true) : ((w.setCell ⟨B, i, none⟩ v).cell? ⟨B, j, none⟩).isSome = true := by
  by_cases e : i = j
  · subst e
    obtain ⟨u, hu⟩ := Option.isSome_iff_exists.1 h
    rw [World.cell?_setCell_same _ _ _ hu]
    rfl
  · rw [cell_set_ne v e]
    exact h

theorem cell_set_eq {w : World} {B i : Nat} (v : Value) (h : (w.cell? ⟨B, i, none⟩).isSome = true) : (w.setCell ⟨B, i, none⟩ v).cell? ⟨B, i, none⟩ = some v := by
  obtain ⟨u, hu⟩ := Option.isSome_iff_exists.1 h
  exact World.cell?_setCell_same _ _ _ hu

theorem Making.store {w : World} {B n k : Nat} {Z : Nat → Gr} (h : Making w B n k Z) (hk : k < n) :
    Making ((((w.setCell ⟨B, k * 4, none⟩ (.string (Z k).c)).setCell ⟨B, k * 4 + 1, none⟩ (.string (Z k).l)).setCell ⟨B, k * 4 + 2, none⟩ (.string (Z k).e)).setCell ⟨B, k * 4 + 3, none⟩ (.slice (Z k).a (Z k).n (Z k).cap)) B n (k + 1) Z := by
  obtain ⟨h1, h2, h3⟩ := h
  have s0 := (h2 (k * 4) (by omega)).1
  have s1 := (h2 (k * 4 + 1) (by omega)).1
  have s2 := (h2 (k * 4 + 2) (by omega)).1
  have s3 := (h2 (k * 4 + 3) (by omega)).1
  refine ⟨by simpa using h1, fun j hj => ⟨?_, ?_⟩, fun j hj => ?_⟩
  · exact cell_set_some _ (cell_set_some _ (cell_set_some _ (cell_set_some _ (h2 j hj).1)))
  · simp only [World.frozen?_setCell]
    exact (h2 j hj).2
  · rcases Nat.lt_succ_iff_lt_or_eq.1 hj with h' | rfl
    · obtain ⟨y1, y2, y3, y4⟩ := h3 j h'
      refine ⟨?_, ?_, ?_, ?_⟩
      · rw [cell_set_ne _ (by omega), cell_set_ne _ (by omega), cell_set_ne _ (by omega), cell_set_ne _ (by omega)]; exact y1
      · rw [cell_set_ne _ (by omega), cell_set_ne _ (by omega), cell_set_ne _ (by omega), cell_set_ne _ (by omega)]; exact y2
      · rw [cell_set_ne _ (by omega), cell_set_ne _ (by omega), cell_set_ne _ (by omega), cell_set_ne _ (by omega)]; exact y3
      · rw [cell_set_ne _ (by omega), cell_set_ne _ (by omega), cell_set_ne _ (by omega), cell_set_ne _ (by omega)]; exact y4
    · refine ⟨?_, ?_, ?_, ?_⟩
      · rw [cell_set_ne _ (by omega), cell_set_ne _ (by omega), cell_set_ne _ (by omega), cell_set_eq _ s0]
      · rw [cell_set_ne _ (by omega), cell_set_ne _ (by omega), cell_set_eq _ (cell_set_some _ s1)]
      · rw [cell_set_ne _ (by omega), cell_set_eq _ (cell_set_some _ (cell_set_some _ s2))]
      · rw [cell_set_eq _ (cell_set_some _ (cell_set_some _ (cell_set_some _ s3)))]

/-- The four cells that take ground k are there and may be written. -/
theorem Making.free {w : World} {B n k : Nat} {Z : Nat → Gr} (h : Making w B n k Z) (hk : k < n) :
    ∃ v0 v1 v2 v3, w.cell? ⟨B, k * 4, none⟩ = some v0 ∧ w.cell? ⟨B, k * 4 + 1, none⟩ = some v1 ∧ w.cell? ⟨B, k * 4 + 2, none⟩ = some v2 ∧ w.cell? ⟨B, k * 4 + 3, none⟩ = some v3 ∧
      w.frozen? ⟨B, k * 4, none⟩ = false ∧ w.frozen? ⟨B, k * 4 + 1, none⟩ = false ∧ w.frozen? ⟨B, k * 4 + 2, none⟩ = false ∧ w.frozen? ⟨B, k * 4 + 3, none⟩ = false := by
  obtain ⟨h1, h2, h3⟩ := h
  obtain ⟨u0, s0⟩ := Option.isSome_iff_exists.1 (h2 (k * 4) (by omega)).1
  obtain ⟨u1, s1⟩ := Option.isSome_iff_exists.1 (h2 (k * 4 + 1) (by omega)).1
  obtain ⟨u2, s2⟩ := Option.isSome_iff_exists.1 (h2 (k * 4 + 2) (by omega)).1
  obtain ⟨u3, s3⟩ := Option.isSome_iff_exists.1 (h2 (k * 4 + 3) (by omega)).1
  exact ⟨u0, u1, u2, u3, s0, s1, s2, s3, (h2 _ (by omega)).2, (h2 _ (by omega)).2, (h2 _ (by omega)).2, (h2 _ (by omega)).2⟩

theorem Making.row {w : World} {B n : Nat} {Z : Nat → Gr} (h : Making w B n n Z) : RowAt w B 0 n Z := ⟨h.1, fun j hj => by rw [Nat.zero_add]; exact h.2.2 j hj⟩

set_option maxHeartbeats 1000000 in
theorem toRules_some (x : Addr) (n cap : Nat) (Z : Nat → Gr) (w : World) (hn : n * 72 ≤ 281474976710656) (hG : GsAt w (some x) n Z) :
    Calls Try.prog 11 #[.slice (some x) n cap] w fun en w' => en = .returned (.slice (some ⟨w.heap.size, 0, none⟩) n n) ∧ RowAt w' w.heap.size 0 n Z ∧ Below w.heap.size w w' := by
  have hnil := fun (w : World) => Lib.run_eql_slice_nil (P := Try.prog) w 25 58 (some x) n cap 0 0 Try.underlying25
  simp only [Option.isNone_some] at hnil
  obtain ⟨i0, hi, hz0, hz1, hz2⟩ := info_parts Try.info61
  have hmk := fun (w : World) => run_make (P := Try.prog) w 29 61 i0 _ Try.underlying29 hi hz0 .i64 .i64 n n (by omega) (by omega) (by rw [hz2]; omega) (by omega)
  rw [hz1] at hmk
  simp only [Int.toNat_natCast] at hmk
  have HG : Hid (GsAt w (some x) n Z) := hG
  clear hG hi hz0 hz1 hz2
  go_enter Try.func11, Try.ntmps11
  go_wp2
  go_loopw [4] (fun j wr => ∃ (k : Nat), k ≤ n ∧ j = .int .i64 k ∧ Making wr w.heap.size n k Z ∧ Below w.heap.size w wr) (fun j _ => n - (intOf j).toNat)
  case atStart => exact ⟨0, Nat.zero_le _, rfl, Making.start _ _ _ _, (Below.refl _ _).alloc (Nat.le_refl _) _⟩
  case round =>
    obtain ⟨k, hk, rfl, hM, hb⟩ := hrel
    clear hnil hmk
    by_cases hlt : k < n
    · obtain ⟨b, o, hx, hrow⟩ := HG.out.1 (by omega)
      injection hx with hx
      subst hx
      obtain ⟨x1, x2, x3, x4⟩ := (hrow.below hb).2 k hlt
      clear hrow
      have hlt' : (k : Int) < (n : Int) := by omega
      go_wp2_with (go_at_call 16; refine (toRule_any _ _ _ _ _ _ _).mono ?_; rintro e w1 ⟨rfl, hb1⟩; have hM1 := hM.below hb1; have HS := hM1.store hlt; obtain ⟨v0, v1, v2, v3, s0, s1, s2, s3, f0, f1, f2, f3⟩ := hM1.free hlt)
      go_roundw
      case rel => exact ⟨k + 1, by omega, by go_num, HS, (((((hb.trans (hb1.mono hb.size)).setCell (by simp) _).setCell (by simp) _).setCell (by simp) _).setCell (by simp) _)⟩
      case measure => simp [intOf]; omega
    · have hlt' : ¬ (k : Int) < (n : Int) := by omega
      obtain rfl : k = n := by omega
      go_wp2
      go_ret
      exact ⟨rfl, hM.row, hb⟩
end Go.Proofs.Qxb6618971a
