/- Arguments that came in: a slice of pairs. -/
import Derived.Test.Qxb6601136aModsPool
import Derived.Deep.SlicePairs
import Derived.Deep.Fields
namespace Go.Proofs.Qxb6601136aMods.Open
open Go.ChangeShapes Go.WideShapes Go.ChangeAt Go.RowKit Go.Deep
open Go.Proofs.Qxb6601136aMods.Mem Go.Proofs.Qxb6601136aMods.Pool
set_option linter.unusedSimpArgs false
set_option linter.unusedVariables false

section
variable {H : Type} {enc : TypeId × Value → H} {w : World} {base : Nat} {held : Bool}

/-- A slice of pairs of integers, read as an argument. -/
theorem open_prs {t e : TypeId} {f0 f1 : Field} {kd : IntKind} {fuel : Nat} {a : Option Addr} {len cap : Nat} {x : DataW H × List MemPlace} (ht : Trym.prog.underlying t = some (.slice e)) (he : Trym.prog.underlying e = some (.struct #[f0, f1]))
    (ce : Trym.prog.cellsOf e = 2) (o0 : f0.offset = 0) (o1 : f1.offset = 1) (c0 : Trym.prog.cellsOf f0.type = 1) (c1 : Trym.prog.cellsOf f1.type = 1)
    (u0 : Trym.prog.underlying f0.type = some (.int .i64)) (u1 : Trym.prog.underlying f1.type = some (.int kd))
    (h : DataW.trod enc Trym.prog w base (fun _ => true) held fuel t [.slice a len cap] = some x) :
    ∃ P Q : Nat → Int, len ≤ 9223372036854775807 ∧ (a = none → len = 0 ∧ cap = 0) ∧ Prs kd w 0 a len P Q ∧ (∀ j, j < len → (Lit.int kd (Q j)).wf = true) := by
  rcases open_slice_pairs ht he ce o0 o1 c0 c1 h with ⟨hcs, _⟩ | ⟨ad, l, c, m, n, V0, V1, D0, D1, P0, P1, hcs, _, hl, hm, hmm, _, hr⟩
  · simp at hcs
    obtain ⟨rfl, rfl, rfl⟩ := hcs
    exact ⟨fun _ => 0, fun _ => 0, by omega, fun _ => ⟨rfl, rfl⟩, Prs.zero _ _ _ _ _ _, fun j hj => by omega⟩
  · simp at hcs
    obtain ⟨rfl, rfl, rfl⟩ := hcs
    simp only [if_true] at hmm
    subst hmm
    unfold maxLen at hm
    obtain ⟨P, hP⟩ := choose_lt (α := Int) (p := fun i q => V0 i = .int .i64 q) (fun i (hi : i < m) => by
      obtain ⟨q, h1, _⟩ := DataW.trod_int u0 (hr i hi).2.2.1
      exact ⟨q, by simpa using h1⟩)
    obtain ⟨Q, hQ⟩ := choose_lt (α := Int) (p := fun i q => V1 i = .int kd q ∧ (Lit.int kd q).wf = true) (fun i (hi : i < m) => by
      obtain ⟨q, h1, _, h3⟩ := DataW.trod_int u1 (hr i hi).2.2.2
      exact ⟨q, by simpa using h1, h3⟩)
    refine ⟨P, Q, by omega, fun h => (by cases h), fun hp => ?_, fun j hj => (hQ j (by omega)).2⟩
    obtain ⟨b, off, spot⟩ := ad
    have hspot : spot = none := by simpa [Addr.add] using World.cell?_spot (hr 0 (by omega)).1
    subst hspot
    have hcell : ∀ j, j < len → w.cell? ⟨b, off + j * 2, none⟩ = some (.int .i64 (P j)) ∧ w.cell? ⟨b, off + (j * 2 + 1), none⟩ = some (.int kd (Q j)) := by
      intro j hj
      obtain ⟨e1, e2, _, _⟩ := hr j (by omega)
      rw [Go.WideShapes.add_plain] at e1 e2
      rw [hP j (by omega)] at e1
      rw [(hQ j (by omega)).1] at e2
      exact ⟨e1, e2⟩
    exact ⟨b, off, rfl, Nat.zero_le _, World.block_lt_of_cell? _ _ (hcell 0 (by omega)).1, hcell⟩
end

end Go.Proofs.Qxb6601136aMods.Open
