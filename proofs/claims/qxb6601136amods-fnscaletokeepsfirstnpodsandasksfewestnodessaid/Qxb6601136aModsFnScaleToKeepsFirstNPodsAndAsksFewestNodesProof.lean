/- The proof of Rows.FnScaleToKeepsFirstNPodsAndAsksFewestNodesSaid. The frame after the kit's shells; the walk is in Qxb6601136aModsScaleWalk. -/
import Derived.Test.Qxb6601136aModsRows
import Derived.Test.Qxb6601136aModsScaleWalk
import Derived.Test.Qxb6601136aModsOpen2
import Derived.WalkKit
import Derived.ProofKit
import Derived.OpenShut
import Derived.ShutString
import Derived.ChangeOld
import Derived.Below
namespace Go.Proofs.Qxb6601136aMods.fnScaleToKeepsFirstNPodsAndAsksFewestNodes
open Go.ChangeShapes Go.WideShapes Go.ChangeAt Go.RowKit
open Go.ChangeMaps (open_string shut_string)
set_option linter.unusedVariables false

theorem own : ownKnob Trym.prog.godebug = none := by kernel_rfl
theorem laidOut : laidOutB Trym.prog = true := by kernel_rfl

/-! ### THE ROW's STEP: WRITTEN OUT: LEAVE IT -/
set_option maxRecDepth 100000 in
theorem lifted (os : Os) (started : os.Started) (H : Type) (enc : TypeId × Value → H) :
    ReturnsInHanded {} Trym.checked os 7 .any (Rows.fnScaleToKeepsFirstNPodsAndAsksFewestNodesSpec.pre6 enc Trym.prog Trym.f7 Rows.fnScaleToKeepsFirstNPodsAndAsksFewestNodesRow.domain false) (Rows.fnScaleToKeepsFirstNPodsAndAsksFewestNodesSpec.post enc Trym.prog Trym.f7 false true false false) := by
  refine returnsInHanded_of_change (C := Trym.checked) own started (by kernel_rfl) Trym.func7
    (ChangeSpec.witness6 (enc := enc) (C := Trym.checked) false ⟨#[], #[.int .i32 0, .int .i32 0, .int .i32 0, .slice none 0 0, .pointer none, .int .i64 0, .int .i32 0], []⟩ 8 (by kernel_rfl) (by kernel_rfl) (by kernel_rfl) (by kernel_rfl)) ?_
  intro W base args ds gs before hval0 hW hcnd _
  have hval : ∀ (j : Nat) t v, Trym.f7.params[j]? = some t → args[j]? = some v → Value.okWide Trym.prog W .any base t v := hval0
  have hW' := hW
  obtain ⟨p, q, hA0, hV, rfl, hfz, hnd⟩ := hW
  have hA : DataW.TrodAll enc Trym.prog W 0 (fun _ => true) true Trym.f7.params.toList args.toList ds p := hA0
  rw [Trym.params7] at hA hval
  obtain ⟨v0, vs0, d0, ds0, p0, q0, hargs, rfl, rfl, h0, r0⟩ := trodAll_cons hA
  obtain ⟨v1, vs1, d1, ds1, p1, q1, rfl, rfl, rfl, h1, r1⟩ := trodAll_cons r0
  obtain ⟨v2, vs2, d2, ds2, p2, q2, rfl, rfl, rfl, h2, r2⟩ := trodAll_cons r1
  obtain ⟨v3, vs3, d3, ds3, p3, q3, rfl, rfl, rfl, h3, r3⟩ := trodAll_cons r2
  obtain ⟨v4, vs4, d4, ds4, p4, q4, rfl, rfl, rfl, h4, r4⟩ := trodAll_cons r3
  obtain ⟨v5, vs5, d5, ds5, p5, q5, rfl, rfl, rfl, h5, r5⟩ := trodAll_cons r4
  obtain ⟨v6, vs6, d6, ds6, p6, q6, rfl, rfl, rfl, h6, r6⟩ := trodAll_cons r5
  obtain ⟨rfl, rfl, rfl⟩ := trodAll_nil r6
  obtain rfl : args = #[v0, v1, v2, v3, v4, v5, v6] := by cases args; simp_all
  obtain ⟨rfl, rfl⟩ := trodVars_none hV
  obtain ⟨x0, rfl, rfl, rfl, w0⟩ := open_int Trym.underlying21 (hval 0 21 v0 rfl rfl) h0
  obtain ⟨x1, rfl, rfl, rfl, w1⟩ := open_int Trym.underlying21 (hval 1 21 v1 rfl rfl) h1
  obtain ⟨x2, rfl, rfl, rfl, w2⟩ := open_int Trym.underlying21 (hval 2 21 v2 rfl rfl) h2
  obtain ⟨x5, rfl, rfl, rfl, w5⟩ := open_int Trym.underlying2 (hval 5 2 v5 rfl rfl) h5
  obtain ⟨x6, rfl, rfl, rfl, w6⟩ := open_int Trym.underlying21 (hval 6 21 v6 rfl rfl) h6
  obtain ⟨a3, len3, cap3, rfl⟩ := okWide_slice Trym.underlying36 (hval 3 36 v3 rfl rfl)
  have k3 := h3
  have lt3 : ∀ x ∈ p3, x.block < W.heap.size := by obtain ⟨m, hm⟩ := k3; exact DataW.trod_lt m _ _ _ hm
  obtain ⟨P, Q, hm3, hn3, hP3, hq3⟩ : ∃ P Q : Nat → Int, len3 ≤ 9223372036854775807 ∧ (a3 = none → len3 = 0 ∧ cap3 = 0) ∧ Mem.Prs .i32 W 0 a3 len3 P Q ∧ (∀ j, j < len3 → (Lit.int .i32 (Q j)).wf = true) := by
    obtain ⟨fuel, hf⟩ := h3
    exact Open.open_prs Trym.underlying36 Trym.underlying70 (by kernel_rfl) rfl rfl (by kernel_rfl) (by kernel_rfl) Trym.underlying2 Trym.underlying21 hf
  obtain ⟨np, rfl⟩ := okWide_pointer Trym.underlying37 (hval 4 37 v4 rfl rfl)
  have k4 := h4
  have lt4 : ∀ x ∈ p4, x.block < W.heap.size := by obtain ⟨m, hm⟩ := k4; exact DataW.trod_lt m _ _ _ hm
  obtain ⟨hv, pn, dl, rd, jn, nj, PJ, QJ, hN, hnj, hnj0⟩ : ∃ (hv : Bool) (pn dl rd jn : Int) (nj : Nat) (PJ QJ : Nat → Int), Pods.NodesIn W np hv pn dl rd jn nj PJ QJ ∧ nj ≤ 9223372036854775807 ∧ (hv = false → nj = 0) := by
    obtain ⟨fuel, hf⟩ := h4
    exact Open.open_nodes hf
  clear hA0 hval0
  have b0 := bounds_i32 w0
  have b1 := bounds_i32 w1
  have b2 := bounds_i32 w2
  have b6 := bounds_i32 w6
  have hq : ∀ j, j < len3 → -2147483648 ≤ Q j ∧ Q j ≤ 2147483647 := fun j hj => bounds_i32 (hq3 j hj)
  have fin : Calls Trym.prog 7 #[.int .i32 x0, .int .i32 x1, .int .i32 x2, .slice a3 len3 cap3, .pointer np, .int .i64 x5, .int .i32 x6] W fun e w' => e = .returned (.bool true) ∧ Below W.heap.size W w' := by
    cases hv with
    | false => exact ScaleLaw.walk_false x0 x1 x2 x5 x6 a3 len3 cap3 P Q np pn dl rd jn nj PJ QJ W b0 b1 b2 b6 hm3 hnj (by have := hnj0 rfl; omega) hn3 hq hP3 hN
    | true => exact ScaleLaw.walk_true x0 x1 x2 x5 x6 a3 len3 cap3 P Q np pn dl rd jn nj PJ QJ W b0 b1 b2 b6 hm3 hnj hn3 hq hP3 hN
  refine fin.mono fun e W' ⟨he, bel⟩ => ?_
  subst he
  exact ⟨_, rfl, _, _, _, [], _, [], hW', trodAll_mk1 (shut_bool Trym.underlying4 _), (trodAll_cons_mk (shut_int Trym.underlying21 w0) (trodAll_cons_mk (shut_int Trym.underlying21 w1) (trodAll_cons_mk (shut_int Trym.underlying21 w2) (trodAll_cons_mk (Below.trod laidOut (by kernel_rfl) (of_decide_eq_true (by kernel_rfl)) k3 bel lt3) (trodAll_cons_mk (Below.trod laidOut (by kernel_rfl) (of_decide_eq_true (by kernel_rfl)) k4 bel lt4) (trodAll_cons_mk (shut_int Trym.underlying2 w5) (trodAll_cons_mk (shut_int Trym.underlying21 w6) trodAll_mk0))))))), rfl, bel.frame _, fun h => by cases h⟩

theorem over : Rows.fnScaleToKeepsFirstNPodsAndAsksFewestNodesRow.holds Trym.pinned (OpenSpec.ofChange Rows.fnScaleToKeepsFirstNPodsAndAsksFewestNodesSpec) :=
  OpenClaim.holds_of_wide 7 Trym.f7 rfl rfl rfl rfl rfl rfl rfl ⟨rfl, rfl, rfl, rfl, rfl⟩ rfl rfl rfl rfl rfl (by kernel_rfl) Trym.func7 (by kernel_rfl)
    (of_decide_eq_true (by kernel_rfl)) (by unfold Func.isWrapper; first | (rw [if_pos (by decide +kernel)]; kernel_rfl) | (rw [if_neg (by decide +kernel)]; exact ⟨rfl, rfl⟩))
    (fun os started H enc _ => lifted os started H enc)

/-- ████ THE STATEMENT ████ -/
theorem proved : Rows.FnScaleToKeepsFirstNPodsAndAsksFewestNodesSaid := over
end Go.Proofs.Qxb6601136aMods.fnScaleToKeepsFirstNPodsAndAsksFewestNodes
