/- The contracts of existing and of scaleTo where it shrinks. -/
import Derived.Test.Qxb6601136aModsPin2
import Derived.Test.Qxb6601136aModsShrPlain
namespace Go.Proofs.Qxb6601136aMods.Shr
open Go.ChangeShapes Go.WideShapes Go.ChangeAt Go.RowKit
open Go.Proofs.Qxb6601136aMods.Mem Go.Proofs.Qxb6601136aMods.Pool Go.Proofs.Qxb6601136aMods.Pods Go.Proofs.Qxb6601136aMods.PodsBoth Go.Proofs.Qxb6601136aMods.Pin2
set_option linter.unusedSimpArgs false
set_option linter.unusedVariables false

theorem exist_any (Bp : Nat) (r s p : Int) (a : Option Addr) (n c : Nat) (np : Option Addr) (w : World) (hB : PodsBlk w Bp 88 r s p a n c np) (hr0 : 0 ≤ r) (hs0 : 0 ≤ s) (hp0 : 0 ≤ p) (hsum : r + s + p ≤ 2147483647) :
    Calls Trym.prog 46 #[.pointer (some ⟨Bp, 0, none⟩)] w fun e w' => e = .returned (.int .i32 (r + s + p)) ∧ ∃ q, w' = w.drewN q := by
  obtain ⟨y0, y1, y2, y3, y4⟩ := hB.cells
  clear hB y3 y4
  go_enter Trym.func46, Trym.ntmps46
  go_wp2
  go_quiet (fail)
  go_wp2
  go_ret
  exact ⟨rfl, _, rfl⟩

theorem prow_set {kd : IntKind} {w : World} {N : Nat} {t : TypeId} {n m : Nat} {P Q : Nat → Int} (h : PRow kd w N t n m P Q) (i : Nat) (y : Int) : PRow kd (w.setCell ⟨N, i * 2 + 1, none⟩ (.int kd y)) N t n m P (fun j => if j = i then y else Q j) := by
  obtain ⟨F, hr, hF⟩ := h
  refine ⟨_, hr.set _ _, fun j hj => ?_⟩
  obtain ⟨h1, h2⟩ := hF j hj
  refine ⟨by rw [if_neg (by omega)]; exact h1, ?_⟩
  by_cases e : j = i
  · subst e; simp
  · rw [if_neg (by omega)]; simp only [e, if_false]; exact h2

theorem prow_less {kd : IntKind} {w : World} {N : Nat} {t : TypeId} {n m m' : Nat} {P Q : Nat → Int} (h : PRow kd w N t n m P Q) (hm : m' ≤ m) : PRow kd w N t n m' P Q := by
  obtain ⟨F, hr, hF⟩ := h
  exact ⟨F, hr, fun i hi => hF i (by omega)⟩

theorem prow_cells {kd : IntKind} {w : World} {N : Nat} {t : TypeId} {n m : Nat} {P Q : Nat → Int} (h : PRow kd w N t n m P Q) (hm : m ≤ n) {i : Nat} (hi : i < m) : w.cell? ⟨N, i * 2, none⟩ = some (.int .i64 (P i)) ∧ w.cell? ⟨N, i * 2 + 1, none⟩ = some (.int kd (Q i)) := by
  obtain ⟨F, hr, hF⟩ := h
  obtain ⟨h1, h2⟩ := hF i hi
  exact ⟨by rw [hr.cell (by omega), h1], by rw [hr.cell (by omega), h2]⟩

theorem prow_prs {kd : IntKind} {w : World} {N : Nat} {t : TypeId} {n m : Nat} {P Q : Nat → Int} (h : PRow kd w N t n m P Q) (hm : m ≤ n) : Prs kd w 0 (some ⟨N, 0, none⟩) m P Q := by
  intro h0
  refine ⟨N, 0, rfl, Nat.zero_le _, h.lt, fun j hj => ?_⟩
  obtain ⟨h1, h2⟩ := prow_cells h hm hj
  simp only [Nat.zero_add]
  exact ⟨h1, h2⟩

/-- All but blocks Bp and N stays. -/
def Rest (w w' : World) (Bp N : Nat) : Prop := w.heap.size ≤ w'.heap.size ∧ ∀ b, b ≠ Bp → b ≠ N → b < w.heap.size → w'.heap[b]? = w.heap[b]?
section
variable {w w' : World} {Bp N : Nat}
theorem Rest.refl (w : World) (Bp N : Nat) : Rest w w Bp N := ⟨Nat.le_refl _, fun _ _ _ _ => rfl⟩
theorem Rest.drewN (h : Rest w w' Bp N) (k : Nat) : Rest w (w'.drewN k) Bp N := h
theorem Rest.setP (h : Rest w w' Bp N) (i : Nat) (v : Value) : Rest w (w'.setCell ⟨Bp, i, none⟩ v) Bp N := ⟨by simpa using h.1, fun b h1 h2 h3 => (Below.heap_setCell _ _ _ _ h1).trans (h.2 b h1 h2 h3)⟩
theorem Rest.setN (h : Rest w w' Bp N) (i : Nat) (v : Value) : Rest w (w'.setCell ⟨N, i, none⟩ v) Bp N := ⟨by simpa using h.1, fun b h1 h2 h3 => (Below.heap_setCell _ _ _ _ h2).trans (h.2 b h1 h2 h3)⟩
theorem PoolX.rest {lo : Nat} {np : Option Addr} {hv : Bool} {pn dl rd jn : Int} {nj : Nat} {PJ QJ : Nat → Int} (h : PoolX w lo Bp N np hv pn dl rd jn nj PJ QJ) (hr : Rest w w' Bp N) : NodesR w' np hv pn dl rd jn nj PJ QJ := by
  refine ⟨h.1, fun ht => ?_⟩
  obtain ⟨Bn, aj, hp, hl, h1, h2, hB, hn, hX⟩ := h.2 ht
  exact ⟨Bn, aj, nj, hp, (hB.block (hr.2 Bn h1 h2 hB.lt)).at, fun e => ⟨hn e, hn e⟩, (hX.kept (fun b hb hlt => hr.2 b hb.1 hb.2 hlt) hr.1).prs⟩
end

/-- What the loop holds. -/
def Inv (w wr : World) (lo Bp N n : Nat) (r p : Int) (a np : Option Addr) (P Q : Nat → Int) (s f1 : Int) (m : Nat) (Q' : Nat → Int) (s' f : Int) : Prop :=
  PodsBlk wr Bp 88 r s' p a m n np ∧ Coh wr lo Bp N n m a P Q' ∧ Cut n Q m Q' s' f ∧ s' = s - (f1 - f) ∧ f ≤ f1 ∧ Rest w wr Bp N ∧ Below lo w wr

/-- What scaleTo leaves where it shrinks. -/
def ShrPost (lo Bp n : Nat) (r s x : Int) (P Q : Nat → Int) (np : Option Addr) (hv : Bool) (pn dl rd jn : Int) (nj : Nat) (PJ QJ : Nat → Int) (w : World) (e : Ending) (w' : World) : Prop :=
  ∃ m Q' r' s' p', e = .returned (.int .i64 0) ∧ PodsR w' Bp r' s' p' m P Q' np hv pn dl rd jn nj PJ QJ ∧ ShrP r s x n Q m Q' r' s' p' ∧ m ≤ n ∧ Below lo w w'

end Go.Proofs.Qxb6601136aMods.Shr
