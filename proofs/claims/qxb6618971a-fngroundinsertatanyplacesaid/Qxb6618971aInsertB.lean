/-
  FnGroundInsertAtAnyPlace: the walk where p is a place of the list.
-/
import Derived.Test.Qxb6618971aInsertA
namespace Go.Proofs.Qxb6618971a
open Go.ChangeShapes Go.WideShapes Go.ChangeAt Go.RowKit

theorem below_stores {B D i0 i1 i2 i3 : Nat} {a w : World} {v0 v1 v2 v3 : Value} (h : Below B a w) (hD : B ≤ D) (ha : B ≤ a.heap.size) (o : Obj) :
    Below B a (((((w.setCell ⟨D, i0, none⟩ v0).setCell ⟨D, i1, none⟩ v1).setCell ⟨D, i2, none⟩ v2).setCell ⟨D, i3, none⟩ v3).alloc o) := by
  have h4 := (((h.setCell (p := ⟨D, i0, none⟩) hD v0).setCell (p := ⟨D, i1, none⟩) hD v1).setCell (p := ⟨D, i2, none⟩) hD v2).setCell (p := ⟨D, i3, none⟩) hD v3
  exact h4.alloc (Nat.le_trans ha h4.size) o

/-- Ground g lies at the head of block N. -/
def At (W : World) (N : Nat) (g : Gr) : Prop := N < W.heap.size ∧ CellsAt W N 0 g

theorem At.below {W W' : World} {N : Nat} {g : Gr} (h : At W N g) (hb : Below W.heap.size W W') : At W' N g := ⟨Nat.lt_of_lt_of_le h.1 hb.size, h.2.below h.1 hb⟩

theorem hits_ok {w : World} {A : Option Addr} {n : Nat} {Z : Nat → Gr} {q : ByteArray} {g : Gr} (hG : GsAt w A n Z) (h : Hits Z n q g) : g.n ≤ maxLen ∧ RelAt w g.a g.n := by
  obtain ⟨m, h1, rfl, _, _⟩ := h
  exact ⟨(hG.2 m h1).1.2.2.2, (hG.2 m h1).2⟩

/-- Behind a call that was made with a new ground g in block 'w.heap.size': it lies there; all is longer. -/
theorem after_at {w w' : World} {g : Gr} (hb : Below (w.alloc (.cells #[.string g.c, .string g.l, .string g.e, .slice g.a g.n g.cap] 61)).heap.size (w.alloc (.cells #[.string g.c, .string g.l, .string g.e, .slice g.a g.n g.cap] 61)) w') :
    Below w.heap.size w w' ∧ At w' w.heap.size g := by
  obtain ⟨h1, h2, h3⟩ := after_new hb
  exact ⟨h1, h2, h3⟩

/-- Stage two, where a ground ahead of p has I's code. -/
theorem stage_earlier {Z : Nat → Gr} {n p : Nat} {q : ByteArray} {I g : Gr} (hp : p ≤ n) (h : Hits Z p I.c g) : (∃ g, Hits Z n q g ∧ Hits (put Z p I) (n + 1) q g) ∨ (Misses Z n q ∧ Misses (put Z p I) (n + 1) q) := by
  cases hI : (I.c.toList == q.toList) with
  | false => exact hits_other hp hI
  | true =>
    have e : I.c.toList = q.toList := by simpa using hI
    obtain ⟨m, h1, h2, h3, h4⟩ := h
    rw [e] at h3 h4
    exact Or.inl ⟨g, hits_before I hp ⟨m, h1, h2, h3, h4⟩⟩

set_option maxRecDepth 100000 in
set_option maxHeartbeats 4000000 in
theorem insert_in (A : Option Addr) (n cap : Nat) (Z : Nat → Gr) (p : Nat) (I : Gr) (q : ByteArray) (w : World) (hn : n * 72 ≤ 140737488351232) (hp : p ≤ n) (hq : q.size ≤ maxLen) (hA : A = none → n = 0 ∧ cap = 0) (hG : GsAt w A n Z) (hI : I.ok) (hIR : RelAt w I.a I.n)
    (m1 : Nat) (hm1 : m1 ≤ p) (hbef : Misses Z m1 I.c) (hat : m1 < p → ((Z m1).c.toList == I.c.toList) = true) :
    Calls Try.prog 6 #[.slice A n cap, .int .i64 p, .agg #[.string I.c, .string I.l, .string I.e, .slice I.a I.n I.cap], .string q] w fun en w' => en = .returned (.bool true) ∧ Below w.heap.size w w' := by
  have hn1 : n ≤ maxLen := by unfold maxLen; omega
  have hq' : (q.size : Int) ≤ 9223372036854775807 := by unfold maxLen at hq; omega
  have hb0 := Joins.below_alloc1 w (.cells #[.string I.c, .string I.l, .string I.e, .slice I.a I.n I.cap] 58)
  have c14 := bytesInsert_any A n cap Z p I.c I.l I.e I.a I.n I.cap q _ hn1 hq hI.1 hI.2.1 hI.2.2.1 hI.2.2.2 (hG.below hb0) (hIR.below hb0)
  obtain ⟨i0, hi, hz0, hz1, hz2⟩ := info_parts Try.info61
  have hmk := fun (w : World) => run_make (P := Try.prog) w 29 61 i0 _ Try.underlying29 hi hz0 .i64 .i64 0 ((n : Int) + 1) (by omega) (by omega) (by rw [hz2]; omega) (by omega)
  rw [hz1] at hmk
  simp only [Int.toNat_zero, show ((n : Int) + 1).toNat = n + 1 by omega] at hmk
  have HG : Hid (GsAt w A n Z) := hG
  have HI : Hid (I.ok ∧ RelAt w I.a I.n) := ⟨hI, hIR⟩
  have HA : Hid (A = none → n = 0 ∧ cap = 0) := hA
  have Hi : Hid (Try.prog.info? 61 = some i0 ∧ i0.size = 4) := ⟨hi, hz1⟩
  have HB : Hid (Misses Z m1 I.c) := hbef
  have HT : Hid (m1 < p → ((Z m1).c.toList == I.c.toList) = true) := hat
  clear hG hI hIR hA hb0 hi hz0 hz1 hz2 hbef hat
  go_enter Try.func6, Try.ntmps6
  go_wp2_with (first | (go_at_call 14; refine c14.mono ?_; rintro e w1 ⟨⟨r, rfl⟩, hb1⟩; obtain ⟨hb, hz1, y1, y2, y3, y4⟩ := after_ins (g := I) hb1; clear hb1 c14) | (go_at_call 15; refine (addGround_any _ _ _ _ _ _ _ _ (by omega) (by omega) HI.out.1.1 HI.out.1.2.1 HI.out.1.2.2.1 HI.out.1.2.2.2 (HI.out.2.below hb)).mono ?_; rintro e w2 ⟨r, rfl, r0, r1, hb2⟩) | (go_at_call 10; refine (addLen_any _ _ _ (by omega) (by omega) (by omega) (by omega)).mono ?_; rintro e w' ⟨r', rfl, r0', r1', hw⟩; have hw' := hw.symm; subst hw') | (go_at_call 9; refine (groundsBytes_any _ _ _ _ Z _ r0' r1' hn1 (HG.out.below (hb.trans (hb2.mono hb.size)))).mono ?_; rintro e w3 ⟨r3, rfl, r03, r13, hb3⟩) | (go_at_call 11; refine (toRules_any _ _ _ Z _ (by omega) HA.out (HG.out.below ((hb.trans (hb2.mono hb.size)).trans (hb3.mono (hb.trans (hb2.mono hb.size)).size)))).mono ?_; rintro e w4 ⟨A1, c1, rfl, hrow4, hb4⟩))
  any_goals (go_ret; first | exact ⟨rfl, hb⟩ | exact ⟨rfl, (hb.trans (hb2.mono hb.size)).trans (hb3.mono (hb.trans (hb2.mono hb.size)).size)⟩)
  have hbw4 : Below w.heap.size w w4 := ((hb.trans (hb2.mono hb.size)).trans (hb3.mono (hb.trans (hb2.mono hb.size)).size)).trans (hb4.mono ((hb.trans (hb2.mono hb.size)).trans (hb3.mono (hb.trans (hb2.mono hb.size)).size)).size)
  have hb14 : Below w1.heap.size w1 w4 := (hb2.trans (hb3.mono hb2.size)).trans (hb4.mono (hb2.trans (hb3.mono hb2.size)).size)
  have g4 : CellsAt w4 w.heap.size 0 I := CellsAt.below ⟨y1, y2, y3, y4⟩ hz1 hb14
  have hz4 : w.heap.size < w4.heap.size := Nat.lt_of_lt_of_le hz1 hb14.size
  clear hb hb2 hb3 hb4 hb14 y1 y2 y3 y4 hz1 w1 w2 w3
  have hB5 := book1 A1 n c1 Z hrow4
  have hbw5 : Below w.heap.size w (w4.alloc (book A1 n c1)) := hbw4.alloc hbw4.size _
  have g5 : CellsAt (w4.alloc (book A1 n c1)) w.heap.size 0 I := g4.below hz4 (Joins.below_alloc1 _ _)
  clear hrow4 hbw4 g4
  have hw5 : (w4.alloc (book A1 n c1)).heap.size = w4.heap.size + 1 := by simp
  obtain ⟨W5, hW5⟩ : ∃ W5, W5 = w4.alloc (book A1 n c1) := ⟨_, rfl⟩
  rw [← hW5] at hB5 hbw5 g5 hw5
  have HW5 : Hid (W5 = w4.alloc (book A1 n c1)) := hW5
  have Hw5 : Hid (W5.heap.size = w4.heap.size + 1) := hw5
  clear hW5 hw5
  go_loopw [10, 11] (fun v i wr => ∃ (j : Nat), j ≤ p ∧ i = .int .i64 j ∧ v = .slice (some ⟨w4.heap.size + 1, 0, none⟩) j (n + 1) ∧ Making wr (w4.heap.size + 1) (n + 1) j (put Z p I) ∧ Below W5.heap.size W5 wr) (fun _ i _ => p - (intOf i).toNat)
  case atStart => exact ⟨0, Nat.zero_le _, rfl, rfl, by
      have := Making.start W5 #[.string { data := #[] }, .string { data := #[] }, .string { data := #[] }, .slice none 0 0] (n + 1) (put Z p I)
      rw [Hw5.out, HW5.out] at this
      exact this, by rw [HW5.out]; exact (Joins.below_alloc1 _ _)⟩
  case round =>
    obtain ⟨j, hj, rfl, rfl, hM, hb⟩ := hrel
    clear hmk
    by_cases hlt : j < p
    · have hlt' : (j : Int) < (p : Int) := by omega
      have hltn : (j : Int) < (n : Int) := by omega
      obtain ⟨b, o, rfl, hrow⟩ := HG.out.1 (by omega)
      obtain ⟨x1, x2, x3, x4⟩ := (hrow.below (hbw5.trans (hb.mono hbw5.size))).2 j (by omega)
      clear hrow
      go_wp2_with (go_at_call 16; refine (toRule_any _ _ _ _ _ _ _).mono ?_; rintro e w6 ⟨rfl, hb6⟩; have hM6 := hM.below hb6; have HS := hM6.store (show j < n + 1 by omega); rw [put_lt hlt] at HS; obtain ⟨v0, v1, v2, v3, s0, s1, s2, s3, f0, f1, f2, f3⟩ := hM6.free (show j < n + 1 by omega); have hD := hM6.1)
      go_roundw
      case rel => exact ⟨j + 1, by omega, by go_num, rfl, HS.below (Joins.below_alloc1 _ _), below_stores (hb.trans (hb6.mono hb.size)) (by rw [Hw5.out]; exact Nat.le_refl _) (Nat.le_refl _) _⟩
      case measure => simp [intOf]; omega
    · have hlt' : ¬ (j : Int) < (p : Int) := by omega
      obtain rfl : p = j := by omega
      obtain ⟨y1, y2, y3, y4⟩ := g5.below (by rw [Hw5.out]; omega) hb
      go_wp2_with (go_at_call 16; refine (toRule_any _ _ _ _ _ _ _).mono ?_; rintro e w6 ⟨rfl, hb6⟩; have hM6 := hM.below hb6; have HS := hM6.store (show p < n + 1 by omega); rw [put_at] at HS; obtain ⟨v0, v1, v2, v3, s0, s1, s2, s3, f0, f1, f2, f3⟩ := hM6.free (show p < n + 1 by omega); have hD := hM6.1)
      have hM7 := HS.below (Joins.below_alloc1 _ (.cells #[.string I.c, .string I.l, .string I.e, .slice I.a I.n I.cap] 61))
      have hb7 := below_stores (D := w4.heap.size + 1) (i0 := p * 4) (i1 := p * 4 + 1) (i2 := p * 4 + 2) (i3 := p * 4 + 3) (v0 := .string I.c) (v1 := .string I.l) (v2 := .string I.e) (v3 := .slice I.a I.n I.cap) (hb.trans (hb6.mono hb.size)) (by rw [Hw5.out]; exact Nat.le_refl _) (Nat.le_refl _) (.cells #[.string I.c, .string I.l, .string I.e, .slice I.a I.n I.cap] 61)
      clear HS hM6 hM hb hb6 s0 s1 s2 s3 f0 f1 f2 f3 y1 y2 y3 y4 hj hD
      go_loopw [10, 12] (fun v i wr => ∃ (j : Nat), p ≤ j ∧ j ≤ n ∧ i = .int .i64 j ∧ v = .slice (some ⟨w4.heap.size + 1, 0, none⟩) (j + 1) (n + 1) ∧ Making wr (w4.heap.size + 1) (n + 1) (j + 1) (put Z p I) ∧ Below W5.heap.size W5 wr) (fun _ i _ => n - (intOf i).toNat)
      case atStart => exact ⟨p, Nat.le_refl _, hp, rfl, rfl, hM7, hb7⟩
      case round =>
        obtain ⟨j, hj0, hj, rfl, rfl, hM, hb⟩ := hrel
        clear hM7 hb7
        by_cases hlt : j < n
        · have hltn : (j : Int) < (n : Int) := by omega
          obtain ⟨b, o, rfl, hrow⟩ := HG.out.1 (by omega)
          obtain ⟨x1, x2, x3, x4⟩ := (hrow.below (hbw5.trans (hb.mono hbw5.size))).2 j (by omega)
          clear hrow
          go_wp2_with (go_at_call 16; refine (toRule_any _ _ _ _ _ _ _).mono ?_; rintro e w6 ⟨rfl, hb6⟩; have hM6 := hM.below hb6; have HS := hM6.store (show j + 1 < n + 1 by omega); rw [put_gt hj0] at HS; obtain ⟨v0, v1, v2, v3, s0, s1, s2, s3, f0, f1, f2, f3⟩ := hM6.free (show j + 1 < n + 1 by omega); have hD := hM6.1)
          go_roundw
          case rel => exact ⟨j + 1, by omega, by omega, by go_num, rfl, HS.below (Joins.below_alloc1 _ _), below_stores (hb.trans (hb6.mono hb.size)) (by rw [Hw5.out]; exact Nat.le_refl _) (Nat.le_refl _) _⟩
          case measure => simp [intOf]; omega
        · have hltn : ¬ (j : Int) < (n : Int) := by omega
          obtain rfl : n = j := by omega
          have hrow := hM.row
          have hD := hM.1
          obtain ⟨wo, rfl⟩ : ∃ wo : World, wo = wr := ⟨_, rfl⟩
          have hB1 := (hB5.below hb).alloc (book (some ⟨w4.heap.size + 1, 0, none⟩) (n + 1) (n + 1))
          have hB2 := book1 (some ⟨w4.heap.size + 1, 0, none⟩) (n + 1) (n + 1) (put Z p I) (fun _ => ⟨_, _, rfl, hrow⟩)
          have hbo := (hbw5.trans (hb.mono hbw5.size)).alloc (hbw5.trans (hb.mono hbw5.size)).size (book (some ⟨w4.heap.size + 1, 0, none⟩) (n + 1) (n + 1))
          have gI := (At.below (W' := wo) ⟨by rw [Hw5.out]; omega, g5⟩ hb).below (Joins.below_alloc1 wo (book (some ⟨w4.heap.size + 1, 0, none⟩) (n + 1) (n + 1)))
          have hn2 : n + 1 ≤ maxLen := by unfold maxLen; omega
          clear hb hM hrow hD hB5 hbw5 g5 hj0 hj HW5 Hw5 HA
          go_wp2_with fail
          go_loopw [14, 15] (fun f i wr => ∃ (j : Nat) (b : Bool), j ≤ p ∧ i = .int .i64 j ∧ f = .bool b ∧ Hid (b = decide (m1 < j)) ∧ Below w.heap.size w wr ∧ BookAt wr w4.heap.size A1 n c1 Z ∧ BookAt wr wo.heap.size (some ⟨w4.heap.size + 1, 0, none⟩) (n + 1) (n + 1) (put Z p I) ∧ At wr w.heap.size I) (fun _ i _ => p - (intOf i).toNat)
          case atStart => exact ⟨0, false, Nat.zero_le _, rfl, rfl, (show Hid _ from by simp [Hid]), hbo, hB1, hB2, gI⟩
          case round =>
            clear hB1 hB2 hbo gI
            obtain ⟨j, b, hj, rfl, rfl, Hb, hb, hB1, hB2, gI⟩ := hrel
            by_cases hlt : j < p
            · have hlt' : (j : Int) < (p : Int) := by omega
              have hltn' : (j : Int) < (n : Int) := by omega
              have hj0 : (0 : Int) ≤ (j : Int) := by omega
              obtain ⟨b', o', rfl, hrow⟩ := HG.out.1 (by omega)
              obtain ⟨x1, x2, x3, x4⟩ := (hrow.below hb).2 j (by omega)
              obtain ⟨zI, y1, y2, y3, y4⟩ := gI
              clear hrow
              rcases Nat.lt_trichotomy j m1 with h | h | h
              · have he := HB.out j h
                go_wp2
                go_quiet (fail)
                go_wp2
                go_roundw
                case rel => exact ⟨j + 1, b, by omega, by go_num, rfl, (show Hid _ from by rw [Hb.out]; simp [Hid]; omega), hb.trans (Joins.below_draws _ _ _), hB1.below (Joins.below_draws _ _ _), hB2.below (Joins.below_draws _ _ _), At.below ⟨zI, y1, y2, y3, y4⟩ (Joins.below_draws _ _ _)⟩
                case measure => simp [intOf]; omega
              · subst h
                have he := HT.out hlt
                go_wp2
                go_quiet (fail)
                go_wp2
                go_roundw
                case rel => exact ⟨j + 1, true, by omega, by go_num, rfl, (show Hid _ from by simp [Hid]), hb.trans (Joins.below_draws _ _ _), hB1.below (Joins.below_draws _ _ _), hB2.below (Joins.below_draws _ _ _), At.below ⟨zI, y1, y2, y3, y4⟩ (Joins.below_draws _ _ _)⟩
                case measure => simp [intOf]; omega
              · obtain rfl : b = true := by rw [Hb.out]; simp; omega
                cases he : ((Z j).c.toList == I.c.toList) with
                | true =>
                  go_wp2
                  go_quiet (fail)
                  go_wp2
                  go_roundw
                  case rel => exact ⟨j + 1, true, by omega, by go_num, rfl, (show Hid _ from by simp [Hid]; omega), hb.trans (Joins.below_draws _ _ _), hB1.below (Joins.below_draws _ _ _), hB2.below (Joins.below_draws _ _ _), At.below ⟨zI, y1, y2, y3, y4⟩ (Joins.below_draws _ _ _)⟩
                  case measure => simp [intOf]; omega
                | false =>
                  go_wp2
                  go_quiet (fail)
                  go_wp2
                  go_roundw
                  case rel => exact ⟨j + 1, true, by omega, by go_num, rfl, (show Hid _ from by simp [Hid]; omega), hb.trans (Joins.below_draws _ _ _), hB1.below (Joins.below_draws _ _ _), hB2.below (Joins.below_draws _ _ _), At.below ⟨zI, y1, y2, y3, y4⟩ (Joins.below_draws _ _ _)⟩
                  case measure => simp [intOf]; omega
            · have hlt' : ¬ (j : Int) < (p : Int) := by omega
              have hbn : b = decide (m1 < p) := by rw [Hb.out, show j = p by omega]
              clear Hb
              obtain ⟨zI, y1, y2, y3, y4⟩ := gI
              rcases Nat.lt_or_ge m1 p with hmp | hmp
              · obtain rfl : b = true := by rw [hbn]; simp; omega
                clear hbn
                have hH1 : Hits Z p I.c (Z m1) := ⟨m1, hmp, rfl, HB.out, HT.out hmp⟩
                have hHn := (hits_before I hp hH1).1
                have hHY := (hits_before I hp hH1).2
                have hS := stage_earlier (q := q) hp hH1
                have hok := hits_ok HG.out hHn
                have he := HT.out hmp
                have hne : ((Z m1).c.toList != I.c.toList) = false := by simp only [bne, he]; rfl
                clear hH1
                go_wp2_with fail
                refine (toRule_any _ _ _ _ _ _ _).mono ?_
                rintro e w10 ⟨rfl, hb10⟩
                have hB1a := hB1.below hb10
                have hB2a := hB2.below hb10
                have gIa := At.below (⟨zI, y1, y2, y3, y4⟩ : At _ _ I) hb10
                have hba := hb.trans (hb10.mono hb.size)
                clear hB1 hB2 hb hb10 zI y1 y2 y3 y4
                obtain ⟨zI, y1, y2, y3, y4⟩ := gIa
                go_wp2_with fail
                refine (book_hits (hB1a.alloc _) hn1 hHn).mono ?_
                rintro e w11 ⟨rfl, hb11'⟩
                obtain ⟨hb11, gG⟩ := after_at (g := I) hb11'
                have hB1b := hB1a.below hb11
                have hB2b := hB2a.below hb11
                have gIb := At.below (⟨zI, y1, y2, y3, y4⟩ : At _ _ I) hb11
                have hbb := hba.trans (hb11.mono hba.size)
                clear hB1a hB2a hba hb11 hb11' zI y1 y2 y3 y4
                obtain ⟨zI, y1, y2, y3, y4⟩ := gIb
                go_wp2_with fail
                refine (book_hits (hB2b.alloc _) hn2 hHY).mono ?_
                rintro e w12 ⟨rfl, hb12'⟩
                obtain ⟨hb12, gP⟩ := after_at (g := (Z m1)) hb12'
                have hB1c := hB1b.below hb12
                have hB2c := hB2b.below hb12
                have gIc := At.below (⟨zI, y1, y2, y3, y4⟩ : At _ _ I) hb12
                have gGc := gG.below hb12
                have hbc := hbb.trans (hb12.mono hbb.size)
                clear hB1b hB2b hbb hb12 hb12' zI y1 y2 y3 y4 gG
                obtain ⟨zI, y1, y2, y3, y4⟩ := gIc
                obtain ⟨zG, d1, d2, d3, d4⟩ := gGc
                obtain ⟨zP, f1, f2, f3, f4⟩ := gP
                go_wp2_with fail
                refine (same_any _ _ _ _ _ _ _ hok.1 (hok.2.below (hbc.alloc hbc.size (.cells #[.string (Z m1).c, .string (Z m1).l, .string (Z m1).e, .slice (Z m1).a (Z m1).n (Z m1).cap] 61)))).mono ?_
                rintro e w13 ⟨rfl, hb13'⟩
                obtain ⟨hb13, gi⟩ := after_at (g := (Z m1)) hb13'
                have hB1d := hB1c.below hb13
                have hB2d := hB2c.below hb13
                have gId := At.below (⟨zI, y1, y2, y3, y4⟩ : At _ _ I) hb13
                have gGd := At.below (⟨zG, d1, d2, d3, d4⟩ : At _ _ I) hb13
                have hbd := hbc.trans (hb13.mono hbc.size)
                clear hB1c hB2c hbc hb13 hb13' zI y1 y2 y3 y4 zG d1 d2 d3 d4 zP f1 f2 f3 f4 gi
                rcases hS with ⟨g, hQ1, hQ2⟩ | ⟨hQ1, hQ2⟩
                · obtain ⟨zI, y1, y2, y3, y4⟩ := gId
                  obtain ⟨zG, d1, d2, d3, d4⟩ := gGd
                  go_wp2_with fail
                  refine (book_hits hB1d hn1 hQ1).mono ?_
                  rintro e w14 ⟨rfl, hb14⟩
                  have hB2e := hB2d.below hb14
                  have gIe := At.below (⟨zI, y1, y2, y3, y4⟩ : At _ _ I) hb14
                  have gGe := At.below (⟨zG, d1, d2, d3, d4⟩ : At _ _ I) hb14
                  have hbe := hbd.trans (hb14.mono hbd.size)
                  clear hB1d hB2d hbd hb14 zI y1 y2 y3 y4 zG d1 d2 d3 d4
                  obtain ⟨zI, y1, y2, y3, y4⟩ := gIe
                  obtain ⟨zG, d1, d2, d3, d4⟩ := gGe
                  go_wp2_with fail
                  refine (book_hits (hB2e.alloc _) hn2 hQ2).mono ?_
                  rintro e w15 ⟨rfl, hb15'⟩
                  obtain ⟨hb15, gB⟩ := after_at (g := g) hb15'
                  have gIf := At.below (⟨zI, y1, y2, y3, y4⟩ : At _ _ I) hb15
                  have gGf := At.below (⟨zG, d1, d2, d3, d4⟩ : At _ _ I) hb15
                  have hbf := hbe.trans (hb15.mono hbe.size)
                  clear hB2e hbe hb15 hb15' zI y1 y2 y3 y4 zG d1 d2 d3 d4
                  obtain ⟨zI, y1, y2, y3, y4⟩ := gIf
                  obtain ⟨zG, d1, d2, d3, d4⟩ := gGf
                  obtain ⟨zB, f1, f2, f3, f4⟩ := gB
                  have hokg := hits_ok HG.out hQ1
                  cases hqc : (q.toList == I.c.toList) with
                  | true =>
                    go_wp2_with fail
                    have hb16 := hbf.alloc hbf.size (.cells #[.string g.c, .string g.l, .string g.e, .slice g.a g.n g.cap] 61)
                    refine (same_any _ _ _ _ _ _ _ hokg.1 (hokg.2.below hb16)).mono ?_
                    rintro e w16 ⟨rfl, hb17⟩
                    go_wp2
                    go_ret
                    exact ⟨rfl, hb16.trans (hb17.mono hb16.size)⟩
                  | false =>
                    go_wp2_with fail
                    have hb16 := hbf.alloc hbf.size (.cells #[.string g.c, .string g.l, .string g.e, .slice g.a g.n g.cap] 61)
                    refine (same_any _ _ _ _ _ _ _ hokg.1 (hokg.2.below hb16)).mono ?_
                    rintro e w16 ⟨rfl, hb17⟩
                    go_wp2
                    go_ret
                    exact ⟨rfl, hb16.trans (hb17.mono hb16.size)⟩
                · obtain ⟨zI, y1, y2, y3, y4⟩ := gId
                  obtain ⟨zG, d1, d2, d3, d4⟩ := gGd
                  go_wp2_with fail
                  refine (book_miss hB1d hn1 q hQ1).mono ?_
                  rintro e w14 ⟨rfl, hb14⟩
                  have hB2e := hB2d.below hb14
                  have gIe := At.below (⟨zI, y1, y2, y3, y4⟩ : At _ _ I) hb14
                  have gGe := At.below (⟨zG, d1, d2, d3, d4⟩ : At _ _ I) hb14
                  have hbe := hbd.trans (hb14.mono hbd.size)
                  clear hB1d hB2d hbd hb14 zI y1 y2 y3 y4 zG d1 d2 d3 d4
                  obtain ⟨zI, y1, y2, y3, y4⟩ := gIe
                  obtain ⟨zG, d1, d2, d3, d4⟩ := gGe
                  go_wp2_with fail
                  refine (book_miss (hB2e.alloc _) hn2 q hQ2).mono ?_
                  rintro e w15 ⟨rfl, hb15'⟩
                  obtain ⟨hb15, gB⟩ := after_at (g := ⟨{ data := #[] }, { data := #[] }, { data := #[] }, none, 0, 0⟩) hb15'
                  have gIf := At.below (⟨zI, y1, y2, y3, y4⟩ : At _ _ I) hb15
                  have gGf := At.below (⟨zG, d1, d2, d3, d4⟩ : At _ _ I) hb15
                  have hbf := hbe.trans (hb15.mono hbe.size)
                  clear hB2e hbe hb15 hb15' zI y1 y2 y3 y4 zG d1 d2 d3 d4
                  obtain ⟨zI, y1, y2, y3, y4⟩ := gIf
                  obtain ⟨zG, d1, d2, d3, d4⟩ := gGf
                  obtain ⟨zB, f1, f2, f3, f4⟩ := gB
                  cases hqc : (q.toList == I.c.toList) with
                  | true =>
                    go_wp2
                    go_ret
                    exact ⟨rfl, hbf.alloc hbf.size _⟩
                  | false =>
                    go_wp2
                    go_ret
                    exact ⟨rfl, hbf.alloc hbf.size _⟩
              · obtain rfl : b = false := by rw [hbn]; simp; omega
                clear hbn
                obtain rfl : p = m1 := by omega
                have hHY : Hits (put Z p I) (n + 1) I.c I := hits_at hp HB.out (by simp)
                have hok : I.n ≤ maxLen ∧ RelAt w I.a I.n := ⟨HI.out.1.2.2.2, HI.out.2⟩
                have hne : (I.c.toList != I.c.toList) = false := by simp
                go_wp2_with fail
                refine (toRule_any _ _ _ _ _ _ _).mono ?_
                rintro e w10 ⟨rfl, hb10⟩
                have hB1a := hB1.below hb10
                have hB2a := hB2.below hb10
                have gIa := At.below (⟨zI, y1, y2, y3, y4⟩ : At _ _ I) hb10
                have hba := hb.trans (hb10.mono hb.size)
                clear hB1 hB2 hb hb10 zI y1 y2 y3 y4
                obtain ⟨zI, y1, y2, y3, y4⟩ := gIa
                go_wp2_with fail
                refine (book_some (hB1a.alloc _) hn1 I.c).mono ?_
                rintro e w11 ⟨⟨c5, l5, e5, a5, n5, p5, r5, rfl⟩, hb11'⟩
                obtain ⟨hb11, gG⟩ := after_at (g := I) hb11'
                have hB1b := hB1a.below hb11
                have hB2b := hB2a.below hb11
                have gIb := At.below (⟨zI, y1, y2, y3, y4⟩ : At _ _ I) hb11
                have hbb := hba.trans (hb11.mono hba.size)
                clear hB1a hB2a hba hb11 hb11' zI y1 y2 y3 y4
                obtain ⟨zI, y1, y2, y3, y4⟩ := gIb
                go_wp2_with fail
                refine (book_hits (hB2b.alloc _) hn2 hHY).mono ?_
                rintro e w12 ⟨rfl, hb12'⟩
                obtain ⟨hb12, gP⟩ := after_at (g := ⟨c5, l5, e5, a5, n5, p5⟩) hb12'
                have hB1c := hB1b.below hb12
                have hB2c := hB2b.below hb12
                have gIc := At.below (⟨zI, y1, y2, y3, y4⟩ : At _ _ I) hb12
                have gGc := gG.below hb12
                have hbc := hbb.trans (hb12.mono hbb.size)
                clear hB1b hB2b hbb hb12 hb12' zI y1 y2 y3 y4 gG
                obtain ⟨zI, y1, y2, y3, y4⟩ := gIc
                obtain ⟨zG, d1, d2, d3, d4⟩ := gGc
                obtain ⟨zP, f1, f2, f3, f4⟩ := gP
                go_wp2_with fail
                refine (same_any _ _ _ _ _ _ _ hok.1 (hok.2.below (hbc.alloc hbc.size (.cells #[.string I.c, .string I.l, .string I.e, .slice I.a I.n I.cap] 61)))).mono ?_
                rintro e w13 ⟨rfl, hb13'⟩
                obtain ⟨hb13, gi⟩ := after_at (g := I) hb13'
                have hB1d := hB1c.below hb13
                have hB2d := hB2c.below hb13
                have gId := At.below (⟨zI, y1, y2, y3, y4⟩ : At _ _ I) hb13
                have gGd := At.below (⟨zG, d1, d2, d3, d4⟩ : At _ _ I) hb13
                have hbd := hbc.trans (hb13.mono hbc.size)
                clear hB1c hB2c hbc hb13 hb13' zI y1 y2 y3 y4 zG d1 d2 d3 d4 zP f1 f2 f3 f4 gi
                cases hqc : (q.toList == I.c.toList) with
                | true =>
                  have hQ2 : Hits (put Z p I) (n + 1) q I := hits_at hp (misses_same HB.out hqc) (by rw [beq_iff_eq] at hqc ⊢; exact hqc.symm)
                  obtain ⟨zI, y1, y2, y3, y4⟩ := gId
                  obtain ⟨zG, d1, d2, d3, d4⟩ := gGd
                  go_wp2_with fail
                  refine (book_some hB1d hn1 q).mono ?_
                  rintro e w14 ⟨⟨c6, l6, e6, a6, n6, p6, r6, rfl⟩, hb14⟩
                  have hB2e := hB2d.below hb14
                  have gIe := At.below (⟨zI, y1, y2, y3, y4⟩ : At _ _ I) hb14
                  have gGe := At.below (⟨zG, d1, d2, d3, d4⟩ : At _ _ I) hb14
                  have hbe := hbd.trans (hb14.mono hbd.size)
                  clear hB1d hB2d hbd hb14 zI y1 y2 y3 y4 zG d1 d2 d3 d4
                  obtain ⟨zI, y1, y2, y3, y4⟩ := gIe
                  obtain ⟨zG, d1, d2, d3, d4⟩ := gGe
                  go_wp2_with fail
                  refine (book_hits (hB2e.alloc _) hn2 hQ2).mono ?_
                  rintro e w15 ⟨rfl, hb15'⟩
                  obtain ⟨hb15, gB⟩ := after_at (g := ⟨c6, l6, e6, a6, n6, p6⟩) hb15'
                  have gIf := At.below (⟨zI, y1, y2, y3, y4⟩ : At _ _ I) hb15
                  have gGf := At.below (⟨zG, d1, d2, d3, d4⟩ : At _ _ I) hb15
                  have hbf := hbe.trans (hb15.mono hbe.size)
                  clear hB2e hbe hb15 hb15' zI y1 y2 y3 y4 zG d1 d2 d3 d4
                  obtain ⟨zI, y1, y2, y3, y4⟩ := gIf
                  obtain ⟨zG, d1, d2, d3, d4⟩ := gGf
                  obtain ⟨zB, f1, f2, f3, f4⟩ := gB
                  go_wp2_with fail
                  have hb16 := hbf.alloc hbf.size (.cells #[.string I.c, .string I.l, .string I.e, .slice I.a I.n I.cap] 61)
                  refine (same_any _ _ _ _ _ _ _ hok.1 (hok.2.below hb16)).mono ?_
                  rintro e w16 ⟨rfl, hb17⟩
                  go_wp2
                  go_ret
                  exact ⟨rfl, hb16.trans (hb17.mono hb16.size)⟩
                | false =>
                  have hS := hits_other (Z := Z) (q := q) (I := I) hp (by rw [beq_eq_false_iff_ne] at hqc ⊢; exact fun e => hqc e.symm)
                  rcases hS with ⟨g, hQ1, hQ2⟩ | ⟨hQ1, hQ2⟩
                  · obtain ⟨zI, y1, y2, y3, y4⟩ := gId
                    obtain ⟨zG, d1, d2, d3, d4⟩ := gGd
                    go_wp2_with fail
                    refine (book_hits hB1d hn1 hQ1).mono ?_
                    rintro e w14 ⟨rfl, hb14⟩
                    have hB2e := hB2d.below hb14
                    have gIe := At.below (⟨zI, y1, y2, y3, y4⟩ : At _ _ I) hb14
                    have gGe := At.below (⟨zG, d1, d2, d3, d4⟩ : At _ _ I) hb14
                    have hbe := hbd.trans (hb14.mono hbd.size)
                    clear hB1d hB2d hbd hb14 zI y1 y2 y3 y4 zG d1 d2 d3 d4
                    obtain ⟨zI, y1, y2, y3, y4⟩ := gIe
                    obtain ⟨zG, d1, d2, d3, d4⟩ := gGe
                    go_wp2_with fail
                    refine (book_hits (hB2e.alloc _) hn2 hQ2).mono ?_
                    rintro e w15 ⟨rfl, hb15'⟩
                    obtain ⟨hb15, gB⟩ := after_at (g := g) hb15'
                    have gIf := At.below (⟨zI, y1, y2, y3, y4⟩ : At _ _ I) hb15
                    have gGf := At.below (⟨zG, d1, d2, d3, d4⟩ : At _ _ I) hb15
                    have hbf := hbe.trans (hb15.mono hbe.size)
                    clear hB2e hbe hb15 hb15' zI y1 y2 y3 y4 zG d1 d2 d3 d4
                    obtain ⟨zI, y1, y2, y3, y4⟩ := gIf
                    obtain ⟨zG, d1, d2, d3, d4⟩ := gGf
                    obtain ⟨zB, f1, f2, f3, f4⟩ := gB
                    have hokg := hits_ok HG.out hQ1
                    go_wp2_with fail
                    have hb16 := hbf.alloc hbf.size (.cells #[.string g.c, .string g.l, .string g.e, .slice g.a g.n g.cap] 61)
                    refine (same_any _ _ _ _ _ _ _ hokg.1 (hokg.2.below hb16)).mono ?_
                    rintro e w16 ⟨rfl, hb17⟩
                    go_wp2
                    go_ret
                    exact ⟨rfl, hb16.trans (hb17.mono hb16.size)⟩
                  · obtain ⟨zI, y1, y2, y3, y4⟩ := gId
                    obtain ⟨zG, d1, d2, d3, d4⟩ := gGd
                    go_wp2_with fail
                    refine (book_miss hB1d hn1 q hQ1).mono ?_
                    rintro e w14 ⟨rfl, hb14⟩
                    have hB2e := hB2d.below hb14
                    have gIe := At.below (⟨zI, y1, y2, y3, y4⟩ : At _ _ I) hb14
                    have gGe := At.below (⟨zG, d1, d2, d3, d4⟩ : At _ _ I) hb14
                    have hbe := hbd.trans (hb14.mono hbd.size)
                    clear hB1d hB2d hbd hb14 zI y1 y2 y3 y4 zG d1 d2 d3 d4
                    obtain ⟨zI, y1, y2, y3, y4⟩ := gIe
                    obtain ⟨zG, d1, d2, d3, d4⟩ := gGe
                    go_wp2_with fail
                    refine (book_miss (hB2e.alloc _) hn2 q hQ2).mono ?_
                    rintro e w15 ⟨rfl, hb15'⟩
                    obtain ⟨hb15, gB⟩ := after_at (g := ⟨{ data := #[] }, { data := #[] }, { data := #[] }, none, 0, 0⟩) hb15'
                    have gIf := At.below (⟨zI, y1, y2, y3, y4⟩ : At _ _ I) hb15
                    have gGf := At.below (⟨zG, d1, d2, d3, d4⟩ : At _ _ I) hb15
                    have hbf := hbe.trans (hb15.mono hbe.size)
                    clear hB2e hbe hb15 hb15' zI y1 y2 y3 y4 zG d1 d2 d3 d4
                    obtain ⟨zI, y1, y2, y3, y4⟩ := gIf
                    obtain ⟨zG, d1, d2, d3, d4⟩ := gGf
                    obtain ⟨zB, f1, f2, f3, f4⟩ := gB
                    go_wp2
                    go_ret
                    exact ⟨rfl, hbf.alloc hbf.size _⟩
end Go.Proofs.Qxb6618971a
