/- Arguments that came in: a pointer to a pool. -/
import Derived.Test.Qxb6601136aModsOpen
import Derived.Test.Qxb6601136aModsPods
namespace Go.Proofs.Qxb6601136aMods.Open
open Go.ChangeShapes Go.WideShapes Go.ChangeAt Go.RowKit Go.Deep
open Go.Proofs.Qxb6601136aMods.Mem Go.Proofs.Qxb6601136aMods.Pool Go.Proofs.Qxb6601136aMods.Pods
set_option linter.unusedSimpArgs false
set_option linter.unusedVariables false

section
variable {H : Type} {enc : TypeId × Value → H} {w : World} {base : Nat} {held : Bool}

/-- A value that reads as a slice is one. -/
theorem slice_of {t e : TypeId} {fuel : Nat} {v : Value} {x : DataW H × List MemPlace} (ht : Trym.prog.underlying t = some (.slice e)) (h : DataW.trod enc Trym.prog w base (fun _ => true) held fuel t [v] = some x) : ∃ a len cap, v = .slice a len cap := by
  rcases open_slice ht h with ⟨hcs, _⟩ | ⟨ad, l, c, m, n, D, Pl, hcs, _⟩
  · exact ⟨none, 0, 0, by simpa using hcs⟩
  · exact ⟨some ad, l, c, by simpa using hcs⟩

theorem open_nodes {fuel : Nat} {np : Option Addr} {x : DataW H × List MemPlace} (h : DataW.trod enc Trym.prog w base (fun _ => true) held fuel 37 [.pointer np] = some x) :
    ∃ (hv : Bool) (pn dl rd jn : Int) (nj : Nat) (PJ QJ : Nat → Int), NodesIn w np hv pn dl rd jn nj PJ QJ ∧ nj ≤ 9223372036854775807 ∧ (hv = false → nj = 0) := by
  rcases open_ptr_fields Trym.underlying37 Trym.underlying40 (hone_of (by kernel_rfl)) (by kernel_rfl) (by decide) h with ⟨hcs, _⟩ | ⟨b, o, n, V, Y, hcs, _, _, hf⟩
  · refine ⟨false, 0, 0, 0, 0, 0, fun _ => 0, fun _ => 0, ⟨fun _ => by simpa using hcs, fun h => by cases h⟩, by omega, fun _ => rfl⟩
  · obtain ⟨c0, t0⟩ := hf 0 _ rfl
    obtain ⟨c1, t1⟩ := hf 1 _ rfl
    obtain ⟨c2, t2⟩ := hf 2 _ rfl
    obtain ⟨c3, t3⟩ := hf 3 _ rfl
    obtain ⟨c4, t4⟩ := hf 4 _ rfl
    obtain ⟨pn, e0, _⟩ := DataW.trod_int Trym.underlying2 t0
    obtain ⟨dl, e1, _⟩ := DataW.trod_int Trym.underlying2 t1
    obtain ⟨rd, e2, _⟩ := DataW.trod_int Trym.underlying2 t2
    obtain ⟨jn, e4, _⟩ := DataW.trod_int Trym.underlying2 t4
    obtain ⟨a, len, cap, e3⟩ := slice_of Trym.underlying22 t3
    simp at e0 e1 e2 e4 hcs
    rw [e0] at c0
    rw [e1] at c1
    rw [e2] at c2
    rw [e4] at c4
    rw [e3] at c3 t3
    obtain ⟨PJ, QJ, hl, hn, hP, _⟩ := open_prs Trym.underlying22 Trym.underlying63 (by kernel_rfl) rfl rfl (by kernel_rfl) (by kernel_rfl) Trym.underlying2 Trym.underlying2 t3
    refine ⟨true, pn, dl, rd, jn, len, PJ, QJ, ⟨fun h => (by cases h), fun _ => ⟨b, o, a, cap, hcs, ⟨World.block_lt_of_cell? _ _ c0, c0, c1, c2, c3, c4⟩, hn, hP⟩⟩, hl, fun h => by cases h⟩
end

end Go.Proofs.Qxb6601136aMods.Open
