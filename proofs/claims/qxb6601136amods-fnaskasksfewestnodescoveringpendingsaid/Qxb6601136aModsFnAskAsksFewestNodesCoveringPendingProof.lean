/- The proof of Rows.FnAskAsksFewestNodesCoveringPendingSaid. The frame after the kit's shells; the walk is in Qxb6601136aModsAskWalk. -/
import Derived.Test.Qxb6601136aModsRows
import Derived.Test.Qxb6601136aModsAskWalk
import Derived.Test.Qxb6601136aModsOpen
import Derived.WalkKit
import Derived.ProofKit
import Derived.OpenShut
import Derived.ShutString
import Derived.ChangeOld
import Derived.Below
namespace Go.Proofs.Qxb6601136aMods.fnAskAsksFewestNodesCoveringPending
open Go.ChangeShapes Go.WideShapes Go.ChangeAt Go.RowKit
open Go.ChangeMaps (open_string shut_string)
set_option linter.unusedVariables false

theorem own : ownKnob Trym.prog.godebug = none := by kernel_rfl
theorem laidOut : laidOutB Trym.prog = true := by kernel_rfl

/-! ### THE ROW's STEP: WRITTEN OUT: LEAVE IT -/
set_option maxRecDepth 100000 in
theorem lifted (os : Os) (started : os.Started) (H : Type) (enc : TypeId × Value → H) :
    ReturnsInHanded {} Trym.checked os 3 .any (Rows.fnAskAsksFewestNodesCoveringPendingSpec.pre6 enc Trym.prog Trym.f3 Rows.fnAskAsksFewestNodesCoveringPendingRow.domain false) (Rows.fnAskAsksFewestNodesCoveringPendingSpec.post enc Trym.prog Trym.f3 false true false false) := by
  refine returnsInHanded_of_change (C := Trym.checked) own started (by kernel_rfl) Trym.func3
    (ChangeSpec.witness6 (enc := enc) (C := Trym.checked) false ⟨#[], #[.int .i64 0, .int .i64 0, .int .i64 0, .slice none 0 0, .int .i64 0, .int .i64 0, .int .i32 0], []⟩ 8 (by kernel_rfl) (by kernel_rfl) (by kernel_rfl) (by kernel_rfl)) ?_
  intro W base args ds gs before hval0 hW hcnd _
  have hval : ∀ (j : Nat) t v, Trym.f3.params[j]? = some t → args[j]? = some v → Value.okWide Trym.prog W .any base t v := hval0
  have hW' := hW
  obtain ⟨p, q, hA0, hV, rfl, hfz, hnd⟩ := hW
  have hA : DataW.TrodAll enc Trym.prog W 0 (fun _ => true) true Trym.f3.params.toList args.toList ds p := hA0
  rw [Trym.params3] at hA hval
  obtain ⟨v0, vs0, d0, ds0, p0, q0, hargs, rfl, rfl, h0, r0⟩ := trodAll_cons hA
  obtain ⟨v1, vs1, d1, ds1, p1, q1, rfl, rfl, rfl, h1, r1⟩ := trodAll_cons r0
  obtain ⟨v2, vs2, d2, ds2, p2, q2, rfl, rfl, rfl, h2, r2⟩ := trodAll_cons r1
  obtain ⟨v3, vs3, d3, ds3, p3, q3, rfl, rfl, rfl, h3, r3⟩ := trodAll_cons r2
  obtain ⟨v4, vs4, d4, ds4, p4, q4, rfl, rfl, rfl, h4, r4⟩ := trodAll_cons r3
  obtain ⟨v5, vs5, d5, ds5, p5, q5, rfl, rfl, rfl, h5, r5⟩ := trodAll_cons r4
  obtain ⟨v6, vs6, d6, ds6, p6, q6, rfl, rfl, rfl, h6, r6⟩ := trodAll_cons r5
  obtain ⟨rfl, rfl, rfl⟩ := trodAll_nil r6
  obtain rfl : args = #[v0, v1, v2, v3, v4, v5, v6] := by cases args; simp_all
  obtain ⟨rfl, rfl⟩ := trodVars_none hV
  obtain ⟨x0, rfl, rfl, rfl, w0⟩ := open_int Trym.underlying2 (hval 0 2 v0 rfl rfl) h0
  obtain ⟨x1, rfl, rfl, rfl, w1⟩ := open_int Trym.underlying2 (hval 1 2 v1 rfl rfl) h1
  obtain ⟨x2, rfl, rfl, rfl, w2⟩ := open_int Trym.underlying2 (hval 2 2 v2 rfl rfl) h2
  obtain ⟨x4, rfl, rfl, rfl, w4⟩ := open_int Trym.underlying2 (hval 4 2 v4 rfl rfl) h4
  obtain ⟨x5, rfl, rfl, rfl, w5⟩ := open_int Trym.underlying2 (hval 5 2 v5 rfl rfl) h5
  obtain ⟨x6, rfl, rfl, rfl, w6⟩ := open_int Trym.underlying21 (hval 6 21 v6 rfl rfl) h6
  obtain ⟨a3, len3, cap3, rfl⟩ := okWide_slice Trym.underlying22 (hval 3 22 v3 rfl rfl)
  have k3 := h3
  have lt3 : ∀ x ∈ p3, x.block < W.heap.size := by obtain ⟨m, hm⟩ := k3; exact DataW.trod_lt m _ _ _ hm
  obtain ⟨P, Q, hm3, hn3, hP3, _⟩ : ∃ P Q : Nat → Int, len3 ≤ 9223372036854775807 ∧ (a3 = none → len3 = 0 ∧ cap3 = 0) ∧ Mem.Prs .i64 W 0 a3 len3 P Q ∧ (∀ j, j < len3 → (Lit.int .i64 (Q j)).wf = true) := by
    obtain ⟨fuel, hf⟩ := h3
    exact Open.open_prs Trym.underlying22 Trym.underlying63 (by kernel_rfl) rfl rfl (by kernel_rfl) (by kernel_rfl) Trym.underlying2 Trym.underlying2 hf
  clear hA0 hval0
  have b6 := bounds_i32 w6
  have fin : Calls Trym.prog 3 #[.int .i64 x0, .int .i64 x1, .int .i64 x2, .slice a3 len3 cap3, .int .i64 x4, .int .i64 x5, .int .i32 x6] W fun e w' => e = .returned (.bool true) ∧ Below W.heap.size W w' := by
    by_cases c1 : 1048576 < len3
    · refine (Ask.walk_big a3 len3 cap3 x0 x1 x2 x4 x5 x6 W c1 hm3).mono ?_
      rintro e w' ⟨he, hw⟩
      exact ⟨he, by rw [hw]; exact Below.refl _ _⟩
    · by_cases c2 : 65536 < len3 ∨ x0 < 1 ∨ 2147483647 < x0 ∨ x4 < 0 ∨ 4294967296 < x4
      · refine (Ask.walk_out a3 len3 cap3 x0 x1 x2 x4 x5 x6 W (by omega) c2).mono ?_
        rintro e w' ⟨he, hw⟩
        exact ⟨he, by rw [hw]; exact Below.refl _ _⟩
      · exact Ask.walk_in a3 len3 cap3 x0 x1 x2 x4 x5 x6 _ P Q W (by omega) hn3 hP3 (by omega) (by omega) (by omega) (by omega) rfl b6.1 b6.2
  refine fin.mono fun e W' ⟨he, bel⟩ => ?_
  subst he
  exact ⟨_, rfl, _, _, _, [], _, [], hW', trodAll_mk1 (shut_bool Trym.underlying4 _), (trodAll_cons_mk (shut_int Trym.underlying2 w0) (trodAll_cons_mk (shut_int Trym.underlying2 w1) (trodAll_cons_mk (shut_int Trym.underlying2 w2) (trodAll_cons_mk (Below.trod laidOut (by kernel_rfl) (of_decide_eq_true (by kernel_rfl)) k3 bel lt3) (trodAll_cons_mk (shut_int Trym.underlying2 w4) (trodAll_cons_mk (shut_int Trym.underlying2 w5) (trodAll_cons_mk (shut_int Trym.underlying21 w6) trodAll_mk0))))))), rfl, bel.frame _, fun h => by cases h⟩

theorem over : Rows.fnAskAsksFewestNodesCoveringPendingRow.holds Trym.pinned (OpenSpec.ofChange Rows.fnAskAsksFewestNodesCoveringPendingSpec) :=
  OpenClaim.holds_of_wide 3 Trym.f3 rfl rfl rfl rfl rfl rfl rfl ⟨rfl, rfl, rfl, rfl, rfl⟩ rfl rfl rfl rfl rfl (by kernel_rfl) Trym.func3 (by kernel_rfl)
    (of_decide_eq_true (by kernel_rfl)) (by unfold Func.isWrapper; first | (rw [if_pos (by decide +kernel)]; kernel_rfl) | (rw [if_neg (by decide +kernel)]; exact ⟨rfl, rfl⟩))
    (fun os started H enc _ => lifted os started H enc)

/-- ████ THE STATEMENT ████ -/
theorem proved : Rows.FnAskAsksFewestNodesCoveringPendingSaid := over
end Go.Proofs.Qxb6601136aMods.fnAskAsksFewestNodesCoveringPending
