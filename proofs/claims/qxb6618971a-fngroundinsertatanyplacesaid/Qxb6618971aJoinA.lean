/-
  FnGroundJoinAtAnyCut: the walk where the cut lies inside the list.
-/
import Derived.Test.Qxb6618971aGroundsH
namespace Go.Proofs.Qxb6618971a
open Go.ChangeShapes Go.WideShapes Go.ChangeAt Go.RowKit

/-- A Rulebook of which the field Grounds alone is given. -/
abbrev book (A : Option Addr) (n c : Nat) : Obj := .cells #[.string { data := #[] }, .string { data := #[] }, .int .i64 0, .int .i64 0, .int .i64 0, .int .i64 0, .int .i64 0, .string { data := #[] }, .pointer none, .bool false, .int .i64 0, .string { data := #[] }, .pointer none, .bool false, .bool false, .bool false, .slice A n c, .slice none 0 0, .map none, .slice none 0 0, .map none, .string { data := #[] }, .pointer none] 56

theorem books3 {w : World} (A1 A2 A3 : Option Addr) (n1 c1 n2 c2 n3 c3 : Nat) (Z1 Z2 Z3 : Nat → Gr) (h1 : 0 < n1 → ∃ b o, A1 = some ⟨b, o, none⟩ ∧ RowAt w b o n1 Z1) (h2 : 0 < n2 → ∃ b o, A2 = some ⟨b, o, none⟩ ∧ RowAt w b o n2 Z2) (h3 : 0 < n3 → ∃ b o, A3 = some ⟨b, o, none⟩ ∧ RowAt w b o n3 Z3) :
    BookAt (((w.alloc (book A1 n1 c1)).alloc (book A2 n2 c2)).alloc (book A3 n3 c3)) w.heap.size A1 n1 c1 Z1 ∧ BookAt (((w.alloc (book A1 n1 c1)).alloc (book A2 n2 c2)).alloc (book A3 n3 c3)) (w.heap.size + 1) A2 n2 c2 Z2 ∧ BookAt (((w.alloc (book A1 n1 c1)).alloc (book A2 n2 c2)).alloc (book A3 n3 c3)) (w.heap.size + 1 + 1) A3 n3 c3 Z3 := by
  have hb := Joins.below_alloc3 w (book A1 n1 c1) (book A2 n2 c2) (book A3 n3 c3)
  refine ⟨⟨by simp; omega, ?_, fun h => ?_⟩, ⟨by simp, ?_, fun h => ?_⟩, ⟨by simp, ?_, fun h => ?_⟩⟩
  · rw [World.cell?_alloc_past _ _ _ (by simp; omega), World.cell?_alloc_past _ _ _ (by simp), World.cell?_alloc_at _ _ _ _ rfl]; rfl
  · obtain ⟨b, o, e, hr⟩ := h1 h; exact ⟨b, o, e, hr.below hb⟩
  · rw [World.cell?_alloc_past _ _ _ (by simp), World.cell?_alloc_at _ _ _ _ (by simp)]; rfl
  · obtain ⟨b, o, e, hr⟩ := h2 h; exact ⟨b, o, e, hr.below hb⟩
  · rw [World.cell?_alloc_at _ _ _ _ (by simp)]; rfl
  · obtain ⟨b, o, e, hr⟩ := h3 h; exact ⟨b, o, e, hr.below hb⟩

theorem cells_new (w : World) (g : Gr) : CellsAt (w.alloc (.cells #[.string g.c, .string g.l, .string g.e, .slice g.a g.n g.cap] 61)) w.heap.size 0 g := by
  refine ⟨?_, ?_, ?_, ?_⟩ <;> simp

theorem CellsAt.below {w w' : World} {b o : Nat} {g : Gr} (h : CellsAt w b o g) (hl : b < w.heap.size) (hb : Below w.heap.size w w') : CellsAt w' b o g :=
  ⟨(hb.cell (p := ⟨b, _, none⟩) hl).trans h.1, (hb.cell (p := ⟨b, _, none⟩) hl).trans h.2.1, (hb.cell (p := ⟨b, _, none⟩) hl).trans h.2.2.1, (hb.cell (p := ⟨b, _, none⟩) hl).trans h.2.2.2⟩

/-- Behind a call made with a new ground in block 'w.heap.size': that block, and that all is longer. -/
theorem after_new {w w' : World} {g : Gr} (hb : Below (w.alloc (.cells #[.string g.c, .string g.l, .string g.e, .slice g.a g.n g.cap] 61)).heap.size (w.alloc (.cells #[.string g.c, .string g.l, .string g.e, .slice g.a g.n g.cap] 61)) w') :
    Below w.heap.size w w' ∧ w.heap.size < w'.heap.size ∧ CellsAt w' w.heap.size 0 g :=
  ⟨(Joins.below_alloc1 w _).trans (hb.mono (by simp)), by have := hb.size; simp at this; omega, (cells_new w g).below (by simp) hb⟩

set_option maxRecDepth 100000 in
set_option maxHeartbeats 4000000 in
theorem join_lt (x : Addr) (n cap : Nat) (Z : Nat → Gr) (k : Nat) (q : ByteArray) (w : World) (hn : n * 72 ≤ 140737488351232) (hk : k < n) (hq : q.size ≤ maxLen) (hG : GsAt w (some x) n Z)
    (m : Nat) (hm : m ≤ n) (hbef : ∀ j, j < m → ((Z j).c.toList == q.toList) = false) (hat : m < n → ((Z m).c.toList == q.toList) = true) :
    Calls Try.prog 5 #[.slice (some x) n cap, .int .i64 k, .string q] w fun en w' => en = .returned (.bool true) ∧ Below w.heap.size w w' := by
  have hn1 : n ≤ maxLen := by unfold maxLen; omega
  have hq' : (q.size : Int) ≤ 9223372036854775807 := by unfold maxLen at hq; omega
  have c8 := bytesJoin_any (some x) n cap Z k q w hn1 hq hG
  have HG : Hid (GsAt w (some x) n Z) := hG
  have HB : Hid (∀ j, j < m → ((Z j).c.toList == q.toList) = false) := hbef
  have HA : Hid (m < n → ((Z m).c.toList == q.toList) = true) := hat
  clear hG hbef hat
  go_enter Try.func5, Try.ntmps5
  go_wp2_with (first | (go_at_call 8; refine c8.mono ?_; rintro e w' ⟨⟨r, rfl⟩, hw⟩; have hw' := hw.symm; subst hw') | (go_at_call 10; refine (addLen_any _ _ _ (by omega) (by omega) (by omega) (by omega)).mono ?_; rintro e w' ⟨r, rfl, r0, r1, hw⟩; have hw' := hw.symm; subst hw') | (go_at_call 9; refine (groundsBytes_any _ _ _ _ Z _ r0 r1 hn1 HG.out).mono ?_; rintro e w1 ⟨r, rfl, r0, r1, hb1⟩) | (go_at_call 11; refine (toRules_some _ _ _ Z _ (by omega) (HG.out.below hb1)).mono ?_; rintro e w2 ⟨rfl, hrow2, hb2⟩))
  any_goals (go_ret; first | exact ⟨rfl, Below.refl _ _⟩ | exact ⟨rfl, hb1⟩)
  have hB0 := books3 (some ⟨w1.heap.size, 0, none⟩) (some ⟨w1.heap.size, 0, none⟩) (some ⟨w1.heap.size, k * 4, none⟩) n n k n (n - k) (n - k) Z Z (fun j => Z (k + j)) (fun _ => ⟨_, _, rfl, hrow2⟩) (fun _ => ⟨_, _, rfl, hrow2.upto (Nat.le_of_lt hk)⟩) (fun _ => ⟨_, _, rfl, by have := hrow2.from k; rwa [Nat.zero_add] at this⟩)
  have hb0 : Below w.heap.size w w2 := hb1.trans (hb2.mono hb1.size)
  go_loopw [11, 12] (fun p i wr => ∃ (j : Nat) (b : Bool), j ≤ n ∧ i = .int .i64 j ∧ p = .bool b ∧ Hid (b = decide (m < j)) ∧ Below w.heap.size w wr ∧ BookAt wr w2.heap.size (some ⟨w1.heap.size, 0, none⟩) n n Z ∧ BookAt wr (w2.heap.size + 1) (some ⟨w1.heap.size, 0, none⟩) k n Z ∧ BookAt wr (w2.heap.size + 1 + 1) (some ⟨w1.heap.size, k * 4, none⟩) (n - k) (n - k) (fun j => Z (k + j))) (fun _ i _ => n - (intOf i).toNat)
  case atStart => exact ⟨0, false, Nat.zero_le _, rfl, rfl, (show Hid _ from by simp [Hid]), hb0.trans ((Joins.below_alloc3 w2 _ _ _).mono hb0.size), hB0.1, hB0.2.1, hB0.2.2⟩
  case round =>
    obtain ⟨j, b, hj, rfl, rfl, Hb, hb, hB1, hB2, hB3⟩ := hrel
    clear hB0 hb0 hb1 hb2 hrow2 c8
    by_cases hlt : j < n
    · obtain ⟨b', o', hx, hrow⟩ := HG.out.1 (by omega)
      injection hx with hx
      subst hx
      obtain ⟨x1, x2, x3, x4⟩ := (hrow.below hb).2 j hlt
      clear hrow
      have hlt' : (j : Int) < (n : Int) := by omega
      rcases Nat.lt_trichotomy j m with h | h | h
      · have he := HB.out j h
        go_wp2
        go_roundw
        case rel => exact ⟨j + 1, b, by omega, by go_num, rfl, (show Hid _ from by rw [Hb.out]; simp [Hid]; omega), hb, hB1, hB2, hB3⟩
        case measure => simp [intOf]; omega
      · subst h
        have he := HA.out hlt
        go_wp2
        go_roundw
        case rel => exact ⟨j + 1, true, by omega, by go_num, rfl, (show Hid _ from by simp [Hid]), hb, hB1, hB2, hB3⟩
        case measure => simp [intOf]; omega
      · obtain rfl : b = true := by rw [Hb.out]; simp; omega
        go_wp2
        all_goals
          go_roundw
          case rel => exact ⟨j + 1, true, by omega, by go_num, rfl, (show Hid _ from by simp [Hid]; omega), hb, hB1, hB2, hB3⟩
          case measure => simp [intOf]; omega
    · have hlt' : ¬ (j : Int) < (n : Int) := by omega
      have hbn : b = decide (m < n) := by rw [Hb.out, show j = n by omega]
      have hk1 : k ≤ maxLen := by omega
      clear Hb
      rcases Nat.lt_or_ge m n with hmn | hmn
      · obtain rfl : b = true := by rw [hbn]; simp; omega
        clear hbn
        have he := HA.out hmn
        have hne : ((Z m).c.toList != q.toList) = false := by simp only [bne, he]; rfl
        rcases Nat.lt_or_ge m k with hmk | hmk
        · go_wp2_with fail
          refine (book_hit hB1 hn1 q m hmn HB.out he).mono ?_
          rintro e w3 ⟨rfl, hb3⟩
          have hB2' := hB2.below hb3
          have hB3' := hB3.below hb3
          have hb' := hb.trans (hb3.mono hb.size)
          clear hB1 hB2 hB3 hb hb3
          go_wp2_with fail
          refine (book_hit (hB2'.alloc _) hk1 q m hmk HB.out he).mono ?_
          rintro e w4 ⟨rfl, hb4'⟩
          have hB3 := (hB3'.alloc _).below hb4'
          obtain ⟨hb4, hz4, g4⟩ := after_new (g := Z m) hb4'
          have hb := hb'.trans (hb4.mono hb'.size)
          clear hB2' hB3' hb' hb4' hb4
          go_wp2_with fail
          refine (book_some (hB3.alloc _) (by omega) q).mono ?_
          rintro e w5 ⟨⟨c5, l5, e5, a5, n5, p5, r5, rfl⟩, hb5'⟩
          obtain ⟨hb5, hz5, f5⟩ := after_new (g := Z m) hb5'
          obtain ⟨y1, y2, y3, y4⟩ := (g4.below hz4 hb5)
          obtain ⟨z1, z2, z3, z4⟩ := f5
          have hb' := hb.trans (hb5.mono hb.size)
          have hz : w3.heap.size < w5.heap.size := by omega
          clear hB3 hb hb5 hb5' g4
          go_wp2_with fail
          have hb6 := hb'.alloc hb'.size (.cells #[.string c5, .string l5, .string e5, .slice a5 n5 p5] 61)
          refine (same_any _ _ _ _ _ _ _ (HG.out.2 m hmn).1.2.2.2 ((HG.out.2 m hmn).2.below hb6)).mono ?_
          rintro e w6 ⟨rfl, hb7⟩
          go_wp2
          go_ret
          exact ⟨rfl, hb6.trans (hb7.mono hb6.size)⟩
        · obtain ⟨m', rfl⟩ : ∃ m', m = k + m' := ⟨m - k, by omega⟩
          go_wp2_with fail
          refine (book_hit hB1 hn1 q (k + m') hmn HB.out he).mono ?_
          rintro e w3 ⟨rfl, hb3⟩
          have hB2' := hB2.below hb3
          have hB3' := hB3.below hb3
          have hb' := hb.trans (hb3.mono hb.size)
          clear hB1 hB2 hB3 hb hb3
          go_wp2_with fail
          refine (book_miss (hB2'.alloc _) hk1 q (fun j hj => HB.out j (by omega))).mono ?_
          rintro e w4 ⟨rfl, hb4'⟩
          have hB3 := (hB3'.alloc _).below hb4'
          obtain ⟨hb4, hz4, g4⟩ := after_new (g := Z (k + m')) hb4'
          have hb := hb'.trans (hb4.mono hb'.size)
          clear hB2' hB3' hb' hb4' hb4
          go_wp2_with fail
          refine (book_hit (hB3.alloc _) (by omega) q m' (by omega) (fun j hj => HB.out (k + j) (by omega)) he).mono ?_
          rintro e w5 ⟨rfl, hb5'⟩
          obtain ⟨hb5, hz5, f5⟩ := after_new (g := ⟨{ data := #[] }, { data := #[] }, { data := #[] }, none, 0, 0⟩) hb5'
          obtain ⟨y1, y2, y3, y4⟩ := (g4.below hz4 hb5)
          have hb' := hb.trans (hb5.mono hb.size)
          have hz : w3.heap.size < w5.heap.size := by omega
          clear hB3 hb hb5 hb5' g4 f5
          go_wp2_with fail
          have hb6 := hb'.alloc hb'.size (.cells #[.string (Z (k + m')).c, .string (Z (k + m')).l, .string (Z (k + m')).e, .slice (Z (k + m')).a (Z (k + m')).n (Z (k + m')).cap] 61)
          refine (same_any _ _ _ _ _ _ _ (HG.out.2 (k + m') hmn).1.2.2.2 ((HG.out.2 (k + m') hmn).2.below hb6)).mono ?_
          rintro e w6 ⟨rfl, hb7⟩
          go_wp2
          go_ret
          exact ⟨rfl, hb6.trans (hb7.mono hb6.size)⟩
      · obtain rfl : b = false := by rw [hbn]; simp; omega
        clear hbn
        go_wp2_with fail
        refine (book_miss hB1 hn1 q (fun j hj => HB.out j (by omega))).mono ?_
        rintro e w3 ⟨rfl, hb3⟩
        have hB2' := hB2.below hb3
        have hB3' := hB3.below hb3
        have hb' := hb.trans (hb3.mono hb.size)
        clear hB1 hB2 hB3 hb hb3
        go_wp2_with fail
        refine (book_miss (hB2'.alloc _) hk1 q (fun j hj => HB.out j (by omega))).mono ?_
        rintro e w4 ⟨rfl, hb4'⟩
        have hB3 := (hB3'.alloc _).below hb4'
        obtain ⟨hb4, hz4, g4⟩ := after_new (g := ⟨{ data := #[] }, { data := #[] }, { data := #[] }, none, 0, 0⟩) hb4'
        have hb := hb'.trans (hb4.mono hb'.size)
        clear hB2' hB3' hb' hb4' hb4
        go_wp2_with fail
        refine (book_miss (hB3.alloc _) (by omega) q (fun j hj => HB.out (k + j) (by omega))).mono ?_
        rintro e w5 ⟨rfl, hb5'⟩
        obtain ⟨hb5, hz5, f5⟩ := after_new (g := ⟨{ data := #[] }, { data := #[] }, { data := #[] }, none, 0, 0⟩) hb5'
        have hb' := hb.trans (hb5.mono hb.size)
        clear hB3 hb hb5 hb5' g4 f5
        go_wp2
        go_ret
        exact ⟨rfl, hb'.alloc hb'.size _⟩
end Go.Proofs.Qxb6618971a
