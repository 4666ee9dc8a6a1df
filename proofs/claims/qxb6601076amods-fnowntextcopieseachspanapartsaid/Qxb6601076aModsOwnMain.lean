/- The memory in the loops of FnOwnTextCopiesEachSpanApart. -/
import Derived.Test.Qxb6601076aModsOwnZZ
namespace Go.Proofs.Qxb6601076aMods.Own
open Go.ChangeShapes Go.WideShapes Go.ChangeAt Go.RowKit
open Go.Proofs.Qxb6601076aMods.Base
set_option linter.unusedSimpArgs false
set_option linter.unusedVariables false

/-- Nothing old has turned; out, flags and the one array of bytes. -/
structure Mn (w3 wr : World) (G O B m : Nat) (Ln : Nat → Nat) (F : Nat → Value) : Prop where
  bel : Below w3.heap.size w3 wr
  out : wr.rowIs O 40 m (fun i => .slice (adr G Ln i) (Ln i) (Ln i))
  flg : wr.rowIs B 4 m (fun _ => .bool false)
  all : wr.rowIs G 5 (sumL Ln m) F
  g0 : w3.heap.size ≤ G
  go : G < O
  ob : O < B

/-- The bytes as ownText lays them. -/
def Laid (m : Nat) (Ln : Nat → Nat) (V : Nat → Nat → Int) (F : Nat → Value) : Prop := ∀ i, i < m → ∀ j, j < Ln i → F (sumL Ln i + j) = .int .u8 (V i j)

theorem Z2.mn {w3 wr : World} {N G O B m : Nat} {A : Nat → Option Addr} {Ln Cp : Nat → Nat} {Fl : Nat → Bool} {Z : Nat → Nat → Int} (h : Z2 w3 wr N G O B m m A Ln Cp Fl Z) : ∃ F, Mn w3 wr G O B m Ln F ∧ Laid m Ln Z F := by
  have h0 := h.ot.n0
  have h1 := h.ot.ng
  refine ⟨fun c => (cat Ln Z m).getD c (.int .u8 0), ⟨h.ot.bel, h.out.congr (fun i hi => by simp [hi]), h.flg, ?_, by omega, h.go, h.ob⟩, fun i hi j hj => ?_⟩
  · obtain ⟨hl, h2⟩ := h.ot.own
    rcases h2 with ⟨h2, _⟩ | ⟨g, cap, cur, hv, _, hh, hn, _, hsz, htk⟩
    · cases h2
    · simp only [Value.slice.injEq, Option.some.injEq, Addr.mk.injEq, true_and, and_true] at hv
      have e1 : g = G := hv.1.symm
      have e2 : cap = sumL Ln m := hv.2.symm
      subst e1
      subst e2
      refine ⟨cur, hh, by omega, fun i hi => ?_⟩
      have hcl : cur.toList = cat Ln Z m := by
        rw [← htk, List.take_of_length_le (by simp; omega)]
      have hi2 : i < (cat Ln Z m).length := by rw [cat_length]; exact hi
      rw [← Array.getElem?_toList, hcl]
      simp [List.getD, List.getElem?_eq_getElem hi2]
  · have := cat_at Ln Z hj m hi
    simp [List.getD, this, byt]

section
variable {w3 wr : World} {G O B m : Nat} {Ln : Nat → Nat} {F : Nat → Value}

theorem Mn.drewN (h : Mn w3 wr G O B m Ln F) (k : Nat) : Mn w3 (wr.drewN k) G O B m Ln F :=
  ⟨below_drewN h.bel k, h.out, h.flg, h.all, h.g0, h.go, h.ob⟩

theorem Mn.cells (h : Mn w3 wr G O B m Ln F) {V : Nat → Nat → Int} (hL : Laid m Ln V F) {i : Nat} (hi : i < m) : Cells wr 0 (adr G Ln i) (Ln i) (byt (V i)) := by
  intro hn
  have hs := sumL_le (Ln := Ln) hi
  refine ⟨G, sumL Ln i, by simp [adr]; omega, Nat.zero_le _, h.all.lt, fun j hj => ?_⟩
  rw [h.all.cell (by omega), hL i hi j hj]
  rfl

theorem Mn.set (h : Mn w3 wr G O B m Ln F) (c : Nat) (v : Value) : Mn w3 (wr.setCell ⟨G, c, none⟩ v) G O B m Ln (fun x => if x = c then v else F x) := by
  have h1 := h.go
  have h2 := h.ob
  exact ⟨h.bel.setCell (p := ⟨G, c, none⟩) h.g0 v, h.out.setOther (a := ⟨G, c, none⟩) (by show O ≠ G; omega) v, h.flg.setOther (a := ⟨G, c, none⟩) (by show B ≠ G; omega) v, h.all.set c v, h.g0, h1, h2⟩

theorem Mn.grown {w' : World} (h : Mn w3 wr G O B m Ln F) (hg : wr.grownBy w' none) : Mn w3 w' G O B m Ln F :=
  ⟨h.bel.grown hg h.bel.size (fun x hx => by cases hx), h.out.of_block (hg.block _ h.out.lt (by simp)), h.flg.of_block (hg.block _ h.flg.lt (by simp)), h.all.of_block (hg.block _ h.all.lt (by simp)), h.g0, h.go, h.ob⟩

theorem Mn.alloc (h : Mn w3 wr G O B m Ln F) (o : Obj) : Mn w3 (wr.alloc o) G O B m Ln F :=
  ⟨h.bel.alloc h.bel.size o, h.out.alloc o, h.flg.alloc o, h.all.alloc o, h.g0, h.go, h.ob⟩
end

/-- Two places of the one array are apart unless they are one. -/
theorem place_ne {Ln : Nat → Nat} {i j i' j' : Nat} (hj : j < Ln i) (hj' : j' < Ln i') (h : sumL Ln i + j = sumL Ln i' + j') : i = i' ∧ j = j' := by
  rcases Nat.lt_trichotomy i i' with c | c | c
  · have := sumL_le (Ln := Ln) c; omega
  · subst c; exact ⟨rfl, by omega⟩
  · have := sumL_le (Ln := Ln) c; omega

/-- The bytes written so far: rows below i, and of row i the first k. -/
def Wrote (m : Nat) (Ln : Nat → Nat) (V : Nat → Nat → Int) (i k : Nat) (F : Nat → Value) : Prop := ∀ i', i' < m → ∀ j', j' < Ln i' → (i' < i ∨ i' = i ∧ j' < k) → F (sumL Ln i' + j') = .int .u8 (V i' j')

theorem Wrote.set {m : Nat} {Ln : Nat → Nat} {V : Nat → Nat → Int} {i k : Nat} {F : Nat → Value} (h : Wrote m Ln V i k F) (hi : i < m) (hk : k < Ln i) : Wrote m Ln V i (k + 1) (fun x => if x = sumL Ln i + k then .int .u8 (V i k) else F x) := by
  intro i' hi' j' hj' hc
  by_cases e : sumL Ln i' + j' = sumL Ln i + k
  · obtain ⟨rfl, rfl⟩ := place_ne hj' hk e
    simp
  · simp only [if_neg e]
    refine h i' hi' j' hj' ?_
    rcases hc with c | ⟨rfl, c⟩
    · exact .inl c
    · refine .inr ⟨rfl, ?_⟩
      have : j' ≠ k := fun e' => e (by rw [e'])
      omega

theorem Wrote.next {m : Nat} {Ln : Nat → Nat} {V : Nat → Nat → Int} {i k : Nat} {F : Nat → Value} (h : Wrote m Ln V i k F) (hk : Ln i ≤ k) : Wrote m Ln V (i + 1) 0 F := by
  intro i' hi' j' hj' hc
  refine h i' hi' j' hj' ?_
  rcases hc with c | ⟨_, c⟩
  · by_cases e : i' = i
    · subst e; exact .inr ⟨rfl, by omega⟩
    · exact .inl (by omega)
  · omega

theorem Wrote.all {m : Nat} {Ln : Nat → Nat} {V : Nat → Nat → Int} {k : Nat} {F : Nat → Value} (h : Wrote m Ln V m k F) : Laid m Ln V F := fun i hi j hj => h i hi j hj (.inl hi)

theorem Wrote.start (m : Nat) (Ln : Nat → Nat) (V : Nat → Nat → Int) (F : Nat → Value) : Wrote m Ln V 0 0 F := fun i' _ j' _ hc => by omega

end Go.Proofs.Qxb6601076aMods.Own
