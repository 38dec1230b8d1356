/-
  'Rows.FnGroundJoinAtAnyCutSaid', proved. The frame is the guide's own way for a law over memory (proof-skeleton.mjs, third state; 'Below'), typed for []ZGround; the reach by 'returnsInHanded_of_change_sized'.
-/
import Derived.Test.Qxb6618971aRows
import Derived.Test.Qxb6618971aJoinB
import Derived.Test.Qxb6618971aGroundsOpen
namespace Go.Proofs.Qxb6618971a.fnGroundJoinAtAnyCut
open Go.ChangeShapes Go.WideShapes Go.ChangeAt Go.RowKit
open Go.ChangeMaps (open_string shut_string)

theorem own : ownKnob Try.prog.godebug = none := by kernel_rfl
theorem laidOut : laidOutB Try.prog = true := by kernel_rfl

/-- The walk, of a slice that is not nil: every cut, every code. -/
theorem walk_some (x : Addr) (n cap : Nat) (Z : Nat → Gr) (k : Int) (q : ByteArray) (w : World) (hn : n * 72 ≤ 140737488351232) (hq : q.size ≤ maxLen) (hG : GsAt w (some x) n Z) :
    Calls Try.prog 5 #[.slice (some x) n cap, .int .i64 k, .string q] w fun en w' => en = .returned (.bool true) ∧ Below w.heap.size w w' := by
  by_cases hk : k < 0 ∨ (n : Int) < k
  · exact join_out (some x) n cap Z k q w hn hk hq hG
  · obtain ⟨j, rfl⟩ := Int.eq_ofNat_of_zero_le (show 0 ≤ k by omega)
    have hm : ∃ m, m ≤ n ∧ (∀ i, i < m → ((Z i).c.toList == q.toList) = false) ∧ (m < n → ((Z m).c.toList == q.toList) = true) := by
      rcases first_or_none (fun i => (Z i).c.toList == q.toList) n with h | ⟨m, h1, h2, h3⟩
      · exact ⟨n, Nat.le_refl _, h, fun h' => absurd h' (Nat.lt_irrefl _)⟩
      · exact ⟨m, Nat.le_of_lt h1, h3, fun _ => h2⟩
    obtain ⟨m, h1, h2, h3⟩ := hm
    rcases Nat.lt_or_ge j n with hj | hj
    · exact join_lt x n cap Z j q w hn hj hq hG m h1 h2 h3
    · have e : j = n := by omega
      rw [e]
      exact join_eq x n cap Z q w hn hq hG m h1 h2 h3

theorem walk_nil (k : Int) (q : ByteArray) (w : World) (hq : q.size ≤ maxLen) :
    Calls Try.prog 5 #[.slice none 0 0, .int .i64 k, .string q] w fun en w' => en = .returned (.bool true) ∧ Below w.heap.size w w' := by
  by_cases hk : k = 0
  · rw [hk]
    exact join_nil q w hq
  · exact join_out none 0 0 (fun _ => ⟨{ data := #[] }, { data := #[] }, { data := #[] }, none, 0, 0⟩) k q w (by omega) (by omega) hq ⟨fun h => absurd h (Nat.lt_irrefl _), fun j hj => absurd hj (Nat.not_lt_zero _)⟩

set_option maxRecDepth 100000 in
theorem lifted (os : Os) (started : os.Started) (H : Type) (enc : TypeId × Value → H) :
    ReturnsInHanded {} Try.checked os 5 .any (Rows.fnGroundJoinAtAnyCutSpec.pre6 enc Try.prog Try.f5 Rows.fnGroundJoinAtAnyCutRow.domain false) (Rows.fnGroundJoinAtAnyCutSpec.post enc Try.prog Try.f5 false true false false) := by
  refine returnsInHanded_of_change_sized (C := Try.checked) own started (by kernel_rfl) Try.func5
    (ChangeSpec.witness6 (enc := enc) (C := Try.checked) false ⟨#[], #[.slice none 0 0, .int .i64 0, .string ByteArray.empty], []⟩ 8 (by kernel_rfl) (by kernel_rfl) (by kernel_rfl) (by kernel_rfl)) ?_
  intro W base args ds gs before hval0 hW hcnd hsz0 _
  have hval : ∀ (j : Nat) t v, Try.f5.params[j]? = some t → args[j]? = some v → Value.okWide Try.prog W .any base t v := hval0
  have hsz : (DataW.weightsEach Try.prog (Try.f5.params.toList ++ Rows.fnGroundJoinAtAnyCutSpec.plain.varTypes Try.prog) (ds ++ gs)).all (· ≤ reachBytes) = true := hsz0
  have hW' := hW
  obtain ⟨p, q, hA0, hV, rfl, hfz, hnd⟩ := hW
  have hA : DataW.TrodAll enc Try.prog W 0 (fun _ => true) true Try.f5.params.toList args.toList ds p := hA0
  rw [Try.params5] at hA hval hsz
  obtain ⟨v0, vs0, d0, ds0, p0, q0, hargs, rfl, rfl, h0, r0⟩ := trodAll_cons hA
  obtain ⟨v1, vs1, d1, ds1, p1, q1, rfl, rfl, rfl, h1, r1⟩ := trodAll_cons r0
  obtain ⟨v2, vs2, d2, ds2, p2, q2, rfl, rfl, rfl, h2, r2⟩ := trodAll_cons r1
  obtain ⟨rfl, rfl, rfl⟩ := trodAll_nil r2
  obtain rfl : args = #[v0, v1, v2] := by cases args; simp_all
  obtain ⟨rfl, rfl⟩ := trodVars_none hV
  obtain ⟨a0, len0, cap0, rfl⟩ := okWide_slice Try.underlying25 (hval 0 25 v0 rfl rfl)
  have k0 := h0
  have lt0 : ∀ x ∈ p0, x.block < W.heap.size := by obtain ⟨m, hm⟩ := k0; exact DataW.trod_lt m _ _ _ hm
  obtain ⟨a1, rfl, rfl, rfl, w1⟩ := open_int Try.underlying3 (hval 1 3 v1 rfl rfl) h1
  obtain ⟨a2, rfl, rfl, rfl, w2⟩ := open_string Try.underlying9 (hval 2 9 v2 rfl rfl) h2
  have hcall : Calls Try.prog 5 #[.slice a0 len0 cap0, .int .i64 a1, .string a2] W fun e w' => e = .returned (.bool true) ∧ Below W.heap.size W w' := by
    obtain ⟨fuel, hf⟩ := h0
    rcases grounds_of_trod hf with e | ⟨x, len, cap, Z, es, ss, e, hd, hl, hG⟩
    · injection e with e1 e2 e3
      subst e1 e2 e3
      exact walk_nil a1 a2 W w2
    · injection e with e1 e2 e3
      subst e1 e2 e3
      have hd' : d0 = .slice es ss := hd
      subst hd'
      have := sized_slice hsz (j := 0) (t := 25) (e := 58) rfl rfl Try.underlying25
      rw [Try.bytes58, hl] at this
      simp only [reachBytes] at this
      exact walk_some x len0 cap0 Z a1 a2 W (by omega) w2 hG
  clear hA0 hval0 hsz0 hsz
  refine hcall.mono fun e W' ⟨he, bel⟩ => ?_
  subst he
  exact ⟨_, rfl, _, _, _, [], _, [], hW', trodAll_mk1 (shut_bool Try.underlying4 _), (trodAll_cons_mk (Below.trod laidOut (by kernel_rfl) (of_decide_eq_true (by kernel_rfl)) k0 bel lt0) (trodAll_cons_mk (shut_int Try.underlying3 w1) (trodAll_cons_mk (shut_string Try.underlying9 w2) trodAll_mk0))), rfl, bel.frame _, fun h => by cases h⟩

theorem over : Rows.fnGroundJoinAtAnyCutRow.holds Try.pinned (OpenSpec.ofChange Rows.fnGroundJoinAtAnyCutSpec) :=
  OpenClaim.holds_of_wide 5 Try.f5 rfl rfl rfl rfl rfl rfl rfl ⟨rfl, rfl, rfl, rfl, rfl⟩ rfl rfl rfl rfl rfl (by kernel_rfl) Try.func5 (by kernel_rfl)
    (of_decide_eq_true (by kernel_rfl)) (by unfold Func.isWrapper; first | (rw [if_pos (by decide +kernel)]; kernel_rfl) | (rw [if_neg (by decide +kernel)]; exact ⟨rfl, rfl⟩))
    (fun os started H enc _ => lifted os started H enc)

/-- ████ THE STATEMENT ████ -/
theorem proved : Rows.FnGroundJoinAtAnyCutSaid := over
#print axioms proved
end Go.Proofs.Qxb6618971a.fnGroundJoinAtAnyCut
