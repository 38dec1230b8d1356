/-
  'Rows.FnGroundInsertAtAnyPlaceSaid', proved. The frame is the guide's own way for a law over memory (proof-skeleton.mjs, third state; 'Below'), typed for []ZGround and ZGround; the reach by 'returnsInHanded_of_change_sized'.
-/
import Derived.Test.Qxb6618971aRows
import Derived.Test.Qxb6618971aInsertB
import Derived.Test.Qxb6618971aInsertC
import Derived.Test.Qxb6618971aGroundsOpen
namespace Go.Proofs.Qxb6618971a.fnGroundInsertAtAnyPlace
open Go.ChangeShapes Go.WideShapes Go.ChangeAt Go.RowKit
open Go.ChangeMaps (open_string shut_string)

theorem own : ownKnob Try.prog.godebug = none := by kernel_rfl
theorem laidOut : laidOutB Try.prog = true := by kernel_rfl

/-- The walk: every list, every place, every ground, every code. -/
theorem walk (A : Option Addr) (n cap : Nat) (Z : Nat → Gr) (p : Int) (I : Gr) (q : ByteArray) (w : World) (hn : n * 72 ≤ 140737488351232) (hq : q.size ≤ maxLen) (hA : A = none → n = 0 ∧ cap = 0) (hG : GsAt w A n Z) (hI : I.ok) (hIR : RelAt w I.a I.n) :
    Calls Try.prog 6 #[.slice A n cap, .int .i64 p, .agg #[.string I.c, .string I.l, .string I.e, .slice I.a I.n I.cap], .string q] w fun en w' => en = .returned (.bool true) ∧ Below w.heap.size w w' := by
  by_cases hp : p < 0 ∨ (n : Int) < p
  · exact insert_out A n cap Z p I q w hn hp hq hG hI hIR
  · obtain ⟨j, rfl⟩ := Int.eq_ofNat_of_zero_le (show 0 ≤ p by omega)
    have hm : ∃ m, m ≤ j ∧ Misses Z m I.c ∧ (m < j → ((Z m).c.toList == I.c.toList) = true) := by
      rcases first_or_none (fun i => (Z i).c.toList == I.c.toList) j with h | ⟨m, h1, h2, h3⟩
      · exact ⟨j, Nat.le_refl _, h, fun h' => absurd h' (Nat.lt_irrefl _)⟩
      · exact ⟨m, Nat.le_of_lt h1, h3, fun _ => h2⟩
    obtain ⟨m, h1, h2, h3⟩ := hm
    exact insert_in A n cap Z j I q w hn (by omega) hq hA hG hI hIR m h1 h2 h3

set_option maxRecDepth 100000 in
theorem lifted (os : Os) (started : os.Started) (H : Type) (enc : TypeId × Value → H) :
    ReturnsInHanded {} Try.checked os 6 .any (Rows.fnGroundInsertAtAnyPlaceSpec.pre6 enc Try.prog Try.f6 Rows.fnGroundInsertAtAnyPlaceRow.domain false) (Rows.fnGroundInsertAtAnyPlaceSpec.post enc Try.prog Try.f6 false true false false) := by
  refine returnsInHanded_of_change_sized (C := Try.checked) own started (by kernel_rfl) Try.func6
    (ChangeSpec.witness6 (enc := enc) (C := Try.checked) false ⟨#[], #[.slice none 0 0, .int .i64 0, .agg #[.string ByteArray.empty, .string ByteArray.empty, .string ByteArray.empty, .slice none 0 0], .string ByteArray.empty], []⟩ 8 (by kernel_rfl) (by kernel_rfl) (by kernel_rfl) (by kernel_rfl)) ?_
  intro W base args ds gs before hval0 hW hcnd hsz0 _
  have hval : ∀ (j : Nat) t v, Try.f6.params[j]? = some t → args[j]? = some v → Value.okWide Try.prog W .any base t v := hval0
  have hsz : (DataW.weightsEach Try.prog (Try.f6.params.toList ++ Rows.fnGroundInsertAtAnyPlaceSpec.plain.varTypes Try.prog) (ds ++ gs)).all (· ≤ reachBytes) = true := hsz0
  have hW' := hW
  obtain ⟨p, q, hA0, hV, rfl, hfz, hnd⟩ := hW
  have hA : DataW.TrodAll enc Try.prog W 0 (fun _ => true) true Try.f6.params.toList args.toList ds p := hA0
  rw [Try.params6] at hA hval hsz
  obtain ⟨v0, vs0, d0, ds0, p0, q0, hargs, rfl, rfl, h0, r0⟩ := trodAll_cons hA
  obtain ⟨v1, vs1, d1, ds1, p1, q1, rfl, rfl, rfl, h1, r1⟩ := trodAll_cons r0
  obtain ⟨v2, vs2, d2, ds2, p2, q2, rfl, rfl, rfl, h2, r2⟩ := trodAll_cons r1
  obtain ⟨v3, vs3, d3, ds3, p3, q3, rfl, rfl, rfl, h3, r3⟩ := trodAll_cons r2
  obtain ⟨rfl, rfl, rfl⟩ := trodAll_nil r3
  obtain rfl : args = #[v0, v1, v2, v3] := by cases args; simp_all
  obtain ⟨rfl, rfl⟩ := trodVars_none hV
  obtain ⟨a0, len0, cap0, rfl⟩ := okWide_slice Try.underlying25 (hval 0 25 v0 rfl rfl)
  have k0 := h0
  have lt0 : ∀ x ∈ p0, x.block < W.heap.size := by obtain ⟨m, hm⟩ := k0; exact DataW.trod_lt m _ _ _ hm
  obtain ⟨a1, rfl, rfl, rfl, w1⟩ := open_int Try.underlying3 (hval 1 3 v1 rfl rfl) h1
  obtain ⟨cs2, rfl, hs2⟩ := okWide_struct Try.underlying58 (hval 2 58 v2 rfl rfl)
  have k2 := h2
  have lt2 : ∀ x ∈ p2, x.block < W.heap.size := by obtain ⟨m, hm⟩ := k2; exact DataW.trod_lt m _ _ _ hm
  obtain ⟨a3, rfl, rfl, rfl, w3⟩ := open_string Try.underlying9 (hval 3 9 v3 rfl rfl) h3
  have hcall : Calls Try.prog 6 #[.slice a0 len0 cap0, .int .i64 a1, .agg cs2, .string a3] W fun e w' => e = .returned (.bool true) ∧ Below W.heap.size W w' := by
    obtain ⟨fuel, hf⟩ := h0
    obtain ⟨fuel2, hf2⟩ := h2
    obtain ⟨I, hI, hok, hIR⟩ := ground_of_trod hf2
    have hI' : cs2 = #[.string I.c, .string I.l, .string I.e, .slice I.a I.n I.cap] := by
      apply Array.ext'
      simpa [Value.cells] using hI
    subst hI'
    rcases grounds_of_trod hf with e | ⟨x, len, cap, Z, es, ss, e, hd, hl, hG⟩
    · injection e with e1 e2 e3
      subst e1 e2 e3
      exact walk none 0 0 (fun _ => I) a1 I a3 W (by omega) w3 (fun _ => ⟨rfl, rfl⟩) ⟨fun h => absurd h (Nat.lt_irrefl _), fun j hj => absurd hj (Nat.not_lt_zero _)⟩ hok hIR
    · injection e with e1 e2 e3
      subst e1 e2 e3
      have hd' : d0 = .slice es ss := hd
      subst hd'
      have := sized_slice hsz (j := 0) (t := 25) (e := 58) rfl rfl Try.underlying25
      rw [Try.bytes58, hl] at this
      simp only [reachBytes] at this
      exact walk (some x) len0 cap0 Z a1 I a3 W (by omega) w3 (fun h => by cases h) hG hok hIR
  clear hA0 hval0 hsz0 hsz
  refine hcall.mono fun e W' ⟨he, bel⟩ => ?_
  subst he
  exact ⟨_, rfl, _, _, _, [], _, [], hW', trodAll_mk1 (shut_bool Try.underlying4 _), (trodAll_cons_mk (Below.trod laidOut (by kernel_rfl) (of_decide_eq_true (by kernel_rfl)) k0 bel lt0) (trodAll_cons_mk (shut_int Try.underlying3 w1) (trodAll_cons_mk (Below.trod laidOut (by kernel_rfl) (of_decide_eq_true (by kernel_rfl)) k2 bel lt2) (trodAll_cons_mk (shut_string Try.underlying9 w3) trodAll_mk0)))), rfl, bel.frame _, fun h => by cases h⟩

theorem over : Rows.fnGroundInsertAtAnyPlaceRow.holds Try.pinned (OpenSpec.ofChange Rows.fnGroundInsertAtAnyPlaceSpec) :=
  OpenClaim.holds_of_wide 6 Try.f6 rfl rfl rfl rfl rfl rfl rfl ⟨rfl, rfl, rfl, rfl, rfl⟩ rfl rfl rfl rfl rfl (by kernel_rfl) Try.func6 (by kernel_rfl)
    (of_decide_eq_true (by kernel_rfl)) (by unfold Func.isWrapper; first | (rw [if_pos (by decide +kernel)]; kernel_rfl) | (rw [if_neg (by decide +kernel)]; exact ⟨rfl, rfl⟩))
    (fun os started H enc _ => lifted os started H enc)

/-- ████ THE STATEMENT ████ -/
theorem proved : Rows.FnGroundInsertAtAnyPlaceSaid := over
#print axioms proved
end Go.Proofs.Qxb6618971a.fnGroundInsertAtAnyPlace
