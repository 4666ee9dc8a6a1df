/- The proof of Rows.FnOwnTextCopiesEachSpanApartSaid. The frame after the kit's shells, the two arguments opened by open_int_rows and open_bools; the walk is in Qxb6601076aModsOwnWalk. -/
import Derived.Test.Qxb6601076aModsRows
import Derived.Test.Qxb6601076aModsOwnWalk
import Derived.Deep.Matrix
import Derived.Deep.Grids
import Derived.WalkKit
import Derived.ProofKit
import Derived.OpenShut
import Derived.ShutString
import Derived.ChangeOld
import Derived.Below
namespace Go.Proofs.Qxb6601076aMods.fnOwnTextCopiesEachSpanApart
open Go.ChangeShapes Go.WideShapes Go.ChangeAt Go.RowKit
open Go.ChangeMaps (open_string shut_string)
set_option linter.unusedVariables false

theorem own : ownKnob Trym.prog.godebug = none := by kernel_rfl
theorem laidOut : laidOutB Trym.prog = true := by kernel_rfl

theorem cells_at {w : World} {a : Addr} {n : Nat} {f : Nat → Value} (h : ∀ i, i < n → w.cell? (a.add i) = some (f i)) (hp : 0 < n) :
    ∃ b off, a = ⟨b, off, none⟩ ∧ b < w.heap.size ∧ ∀ j, j < n → w.cell? ⟨b, off + j, none⟩ = some (f j) := by
  obtain ⟨b, off, spot⟩ := a
  have hspot : spot = none := by simpa [Addr.add] using World.cell?_spot (h 0 hp)
  subst hspot
  have h2 : ∀ j, j < n → w.cell? ⟨b, off + j, none⟩ = some (f j) := fun j hj => by rw [← Go.WideShapes.add_plain]; exact h j hj
  exact ⟨b, off, rfl, World.block_lt_of_cell? _ _ (h2 0 hp), h2⟩

/-! ### THE ROW's STEP: WRITTEN OUT: LEAVE IT -/
set_option maxRecDepth 100000 in
theorem lifted (os : Os) (started : os.Started) (H : Type) (enc : TypeId × Value → H) :
    ReturnsInHanded {} Trym.checked os 8 .any (Rows.fnOwnTextCopiesEachSpanApartSpec.pre6 enc Trym.prog Trym.f8 Rows.fnOwnTextCopiesEachSpanApartRow.domain false) (Rows.fnOwnTextCopiesEachSpanApartSpec.post enc Trym.prog Trym.f8 false true false false) := by
  refine returnsInHanded_of_change (C := Trym.checked) own started (by kernel_rfl) Trym.func8
    (ChangeSpec.witness6 (enc := enc) (C := Trym.checked) false ⟨#[], #[.slice none 0 0, .slice none 0 0], []⟩ 8 (by kernel_rfl) (by kernel_rfl) (by kernel_rfl) (by kernel_rfl)) ?_
  intro W base args ds gs before hval0 hW hcnd _
  have hval : ∀ (j : Nat) t v, Trym.f8.params[j]? = some t → args[j]? = some v → Value.okWide Trym.prog W .any base t v := hval0
  have hW' := hW
  obtain ⟨p, q, hA0, hV, rfl, hfz, hnd⟩ := hW
  have hA : DataW.TrodAll enc Trym.prog W 0 (fun _ => true) true Trym.f8.params.toList args.toList ds p := hA0
  rw [Trym.params8] at hA hval
  obtain ⟨v0, vs0, d0, ds0, p0, q0, hargs, rfl, rfl, h0, r0⟩ := trodAll_cons hA
  obtain ⟨v1, vs1, d1, ds1, p1, q1, rfl, rfl, rfl, h1, r1⟩ := trodAll_cons r0
  obtain ⟨rfl, rfl, rfl⟩ := trodAll_nil r1
  obtain rfl : args = #[v0, v1] := by cases args; simp_all
  obtain ⟨rfl, rfl⟩ := trodVars_none hV
  obtain ⟨a0, len0, cap0, rfl⟩ := okWide_slice Trym.underlying37 (hval 0 37 v0 rfl rfl)
  obtain ⟨a1, len1, cap1, rfl⟩ := okWide_slice Trym.underlying38 (hval 1 38 v1 rfl rfl)
  have k0 := h0
  have k1 := h1
  have lt0 : ∀ x ∈ p0, x.block < W.heap.size := by obtain ⟨m, hm⟩ := k0; exact DataW.trod_lt m _ _ _ hm
  have lt1 : ∀ x ∈ p1, x.block < W.heap.size := by obtain ⟨m, hm⟩ := k1; exact DataW.trod_lt m _ _ _ hm
  obtain ⟨Ln, Z, hm0, hln0, hna0, hg0⟩ : ∃ (Ln : Nat → Nat) (Z : Nat → Nat → Int), len0 ≤ 9223372036854775807 ∧ (∀ i, i < len0 → Ln i ≤ 9223372036854775807) ∧ (a0 = none → len0 = 0 ∧ cap0 = 0) ∧ Own.Grid W 0 a0 len0 Ln Z := by
    obtain ⟨fuel, hf⟩ := h0
    rcases Go.Deep.open_int_rows Trym.underlying37 Trym.underlying40 Trym.underlying5 (by kernel_rfl) (by kernel_rfl) hf with ⟨hcs, _⟩ | ⟨x, l, c, A, L, C, Zs, hcs, _, hl, hm, _, hr⟩
    · simp [Value.cells] at hcs
      obtain ⟨rfl, rfl, rfl⟩ := hcs
      exact ⟨fun _ => 0, fun _ _ => 0, by omega, fun _ _ => by omega, fun _ => ⟨rfl, rfl⟩, fun h => absurd h (Nat.lt_irrefl _)⟩
    · simp [Value.cells] at hcs
      obtain ⟨rfl, rfl, rfl⟩ := hcs
      unfold maxLen at hm
      refine ⟨L, fun i j => (Zs i).getD j 0, by omega, fun i hi => ?_, fun h => (by cases h), fun hp => ?_⟩
      · obtain ⟨_, e1, e2, _⟩ := hr i (by omega)
        unfold maxLen at e2
        omega
      · obtain ⟨b, off, rfl, hb, hc⟩ := cells_at (n := len0) (fun i hi => (hr i (by omega)).1) hp
        refine ⟨b, off, A, C, rfl, Nat.zero_le _, hb, fun i hi => ⟨hc i hi, ?_, ?_⟩⟩
        · obtain ⟨_, e1, _, _, _, e2, _⟩ := hr i (by omega)
          intro hA
          have := e2 hA
          omega
        · intro hpi
          obtain ⟨_, e1, _, _, _, e2, e3⟩ := hr i (by omega)
          cases hA : A i with
          | none => have := e2 hA; omega
          | some a' =>
            obtain ⟨b', off', rfl, hb', hc'⟩ := cells_at (n := L i) (fun j hj => (e3 a' hA).2 j (by omega)) hpi
            exact ⟨b', off', rfl, Nat.zero_le _, hb', hc'⟩
  obtain ⟨sh, hm1, hna1, hs1⟩ : ∃ sh : Nat → Bool, len1 ≤ 9223372036854775807 ∧ (a1 = none → len1 = 0 ∧ cap1 = 0) ∧ Own.Cells W 0 a1 len1 (Own.boo sh) := by
    obtain ⟨fuel, hf⟩ := h1
    rcases Go.Deep.open_bools Trym.underlying38 Trym.underlying4 (by kernel_rfl) hf with ⟨hcs, _⟩ | ⟨x, l, c, B, hcs, _, hl, hm, _, hr⟩
    · simp [Value.cells] at hcs
      obtain ⟨rfl, rfl, rfl⟩ := hcs
      exact ⟨fun _ => false, by omega, fun _ => ⟨rfl, rfl⟩, fun h => absurd h (Nat.lt_irrefl _)⟩
    · simp [Value.cells] at hcs
      obtain ⟨rfl, rfl, rfl⟩ := hcs
      unfold maxLen at hm
      refine ⟨B, by omega, fun h => (by cases h), fun hp => ?_⟩
      obtain ⟨b, off, rfl, hb, hc⟩ := cells_at (n := len1) (fun i hi => hr i (by omega)) hp
      exact ⟨b, off, rfl, Nat.zero_le _, hb, hc⟩
  clear hA0 hval0
  refine (Own.walk_any a0 a1 len0 cap0 len1 cap1 Ln Z sh W hm0 hm1 hln0 hna0 hna1 hg0 hs1).mono fun e W' ⟨he, bel⟩ => ?_
  subst he
  exact ⟨_, rfl, _, _, _, [], _, [], hW', trodAll_mk1 (shut_bool Trym.underlying4 _), (trodAll_cons_mk (Below.trod laidOut (by kernel_rfl) (of_decide_eq_true (by kernel_rfl)) k0 bel lt0) (trodAll_cons_mk (Below.trod laidOut (by kernel_rfl) (of_decide_eq_true (by kernel_rfl)) k1 bel lt1) trodAll_mk0)), rfl, bel.frame _, fun h => by cases h⟩

theorem over : Rows.fnOwnTextCopiesEachSpanApartRow.holds Trym.pinned (OpenSpec.ofChange Rows.fnOwnTextCopiesEachSpanApartSpec) :=
  OpenClaim.holds_of_wide 8 Trym.f8 rfl rfl rfl rfl rfl rfl rfl ⟨rfl, rfl, rfl, rfl, rfl⟩ rfl rfl rfl rfl rfl (by kernel_rfl) Trym.func8 (by kernel_rfl)
    (of_decide_eq_true (by kernel_rfl)) (by unfold Func.isWrapper; first | (rw [if_pos (by decide +kernel)]; kernel_rfl) | (rw [if_neg (by decide +kernel)]; exact ⟨rfl, rfl⟩))
    (fun os started H enc _ => lifted os started H enc)

/-- ████ THE STATEMENT ████ -/
theorem proved : Rows.FnOwnTextCopiesEachSpanApartSaid := over
end Go.Proofs.Qxb6601076aMods.fnOwnTextCopiesEachSpanApart
