/- The contract of ownText. -/
import Derived.Test.Qxb6601076aModsOwnSmall
import Derived.Laws.CopyOwn
namespace Go.Proofs.Qxb6601076aMods.Own
open Go.ChangeShapes Go.WideShapes Go.ChangeAt Go.RowKit
open Go.Proofs.Qxb6601076aMods.Base
set_option linter.unusedSimpArgs false
set_option linter.unusedVariables false

/-- Block N is a row of m spans: content and sharesLeft of each. -/
def Spans (w : World) (N m : Nat) (A : Nat → Option Addr) (Ln Cp : Nat → Nat) (Fl : Nat → Bool) : Prop :=
  ∃ F : Nat → Value, w.rowIs N 59 (m * 14) F ∧ ∀ i, i < m → F (i * 14) = .slice (A i) (Ln i) (Cp i) ∧ F (i * 14 + 13) = .bool (Fl i)

section
variable {w w' : World} {N m : Nat} {A : Nat → Option Addr} {Ln Cp : Nat → Nat} {Fl : Nat → Bool}
theorem Spans.cellC (h : Spans w N m A Ln Cp Fl) {i : Nat} (hi : i < m) : w.cell? ⟨N, i * 14, none⟩ = some (.slice (A i) (Ln i) (Cp i)) := by
  obtain ⟨F, hr, hF⟩ := h
  rw [hr.cell (by omega), (hF i hi).1]
theorem Spans.cellF (h : Spans w N m A Ln Cp Fl) {i : Nat} (hi : i < m) : w.cell? ⟨N, i * 14 + 13, none⟩ = some (.bool (Fl i)) := by
  obtain ⟨F, hr, hF⟩ := h
  rw [hr.cell (by omega), (hF i hi).2]
theorem Spans.frozen (h : Spans w N m A Ln Cp Fl) (k : Nat) : w.frozen? ⟨N, k, none⟩ = false := by
  obtain ⟨F, hr, hF⟩ := h
  exact hr.frozen k
theorem Spans.lt (h : Spans w N m A Ln Cp Fl) : N < w.heap.size := by
  obtain ⟨F, hr, hF⟩ := h
  exact hr.lt
theorem Spans.block (h : Spans w N m A Ln Cp Fl) (e : w'.heap[N]? = w.heap[N]?) : Spans w' N m A Ln Cp Fl := by
  obtain ⟨F, hr, hF⟩ := h
  exact ⟨F, hr.of_block e, hF⟩
theorem Spans.congr (h : Spans w N m A Ln Cp Fl) {A' : Nat → Option Addr} {Cp' : Nat → Nat} {Fl' : Nat → Bool} (e : ∀ i, i < m → A i = A' i ∧ Cp i = Cp' i ∧ Fl i = Fl' i) : Spans w N m A' Ln Cp' Fl' := by
  obtain ⟨F, hr, hF⟩ := h
  refine ⟨F, hr, fun i hi => ?_⟩
  obtain ⟨e1, e2, e3⟩ := e i hi
  rw [← e1, ← e2, ← e3]
  exact hF i hi
theorem Spans.setC (h : Spans w N m A Ln Cp Fl) {i : Nat} (hi : i < m) (a : Option Addr) (c : Nat) :
    Spans (w.setCell ⟨N, i * 14, none⟩ (.slice a (Ln i) c)) N m (fun j => if j = i then a else A j) Ln (fun j => if j = i then c else Cp j) Fl := by
  obtain ⟨F, hr, hF⟩ := h
  refine ⟨_, hr.set _ _, fun j hj => ?_⟩
  obtain ⟨f0, f1⟩ := hF j hj
  by_cases e : j = i
  · subst e
    simp only [if_true]
    exact ⟨trivial, by rw [if_neg (by omega)]; exact f1⟩
  · simp only [if_neg e]
    exact ⟨by rw [if_neg (by omega)]; exact f0, by rw [if_neg (by omega)]; exact f1⟩
theorem Spans.setF (h : Spans w N m A Ln Cp Fl) {i : Nat} (hi : i < m) (b : Bool) :
    Spans (w.setCell ⟨N, i * 14 + 13, none⟩ (.bool b)) N m A Ln Cp (fun j => if j = i then b else Fl j) := by
  obtain ⟨F, hr, hF⟩ := h
  refine ⟨_, hr.set _ _, fun j hj => ?_⟩
  obtain ⟨f0, f1⟩ := hF j hj
  by_cases e : j = i
  · subst e
    simp only [if_true]
    exact ⟨by rw [if_neg (by omega)]; exact f0, trivial⟩
  · simp only [if_neg e]
    exact ⟨by rw [if_neg (by omega)]; exact f0, by rw [if_neg (by omega)]; exact f1⟩
end

/-- The bytes of the first k rows, one behind the other. -/
def cat (Ln : Nat → Nat) (Z : Nat → Nat → Int) : Nat → List Value
  | 0 => []
  | k + 1 => cat Ln Z k ++ (List.range (Ln k)).map (byt (Z k))

theorem cat_length (Ln : Nat → Nat) (Z : Nat → Nat → Int) (k : Nat) : (cat Ln Z k).length = sumL Ln k := by
  induction k with
  | zero => rfl
  | succ k ih => simp [cat, sumL, ih]

theorem cat_at (Ln : Nat → Nat) (Z : Nat → Nat → Int) {i j : Nat} (hj : j < Ln i) : ∀ m, i < m → (cat Ln Z m)[sumL Ln i + j]? = some (byt (Z i) j) := by
  intro m hm
  induction m with
  | zero => omega
  | succ m ih =>
    show (cat Ln Z m ++ (List.range (Ln m)).map (byt (Z m)))[sumL Ln i + j]? = _
    by_cases e : i = m
    · subst e
      rw [List.getElem?_append_right (by rw [cat_length]; omega), cat_length]
      simp [hj, show sumL Ln i + j - sumL Ln i = j from by omega]
    · have := sumL_le (Ln := Ln) (i := i) (m := m) (by omega)
      rw [List.getElem?_append_left (by rw [cat_length]; omega)]
      exact ih (by omega)

/-- Where span i's content lies behind ownText. -/
def adr (G : Nat) (Ln : Nat → Nat) (i : Nat) : Option Addr := if Ln i = 0 then some ⟨G, 0, none⟩ else some ⟨G, sumL Ln i, none⟩

/-- What holds in ownText's second loop, k spans done. -/
structure Ot (w0 wr : World) (N G m k : Nat) (A : Nat → Option Addr) (Ln Cp : Nat → Nat) (Fl : Nat → Bool) (Z : Nat → Nat → Int) : Prop where
  bel : Below w0.heap.size w0 wr
  n0 : w0.heap.size ≤ N
  ng : N < G
  own : wr.ownsRow G 5 1 (.slice (some ⟨G, 0, none⟩) (sumL Ln k) (sumL Ln m)) (sumL Ln k) (cat Ln Z k)
  spn : Spans wr N m (fun i => if i < k then adr G Ln i else A i) Ln (fun i => if i < k then Ln i else Cp i) (fun i => if i < k then false else Fl i)

theorem Ot.next {w0 wr w2 : World} {N G m k : Nat} {A : Nat → Option Addr} {Ln Cp : Nat → Nat} {Fl : Nat → Bool} {Z : Nat → Nat → Int} (h : Ot w0 wr N G m k A Ln Cp Fl Z) (hk : k < m)
    (hown : w2.ownsRow G 5 1 (.slice (some ⟨G, 0, none⟩) (sumL Ln k + Ln k) (sumL Ln m)) (sumL Ln k + Ln k) (cat Ln Z k ++ (List.range (Ln k)).map (byt (Z k)))) (hg : wr.grownBy w2 (some G)) :
    Ot w0 ((w2.setCell ⟨N, k * 14, none⟩ (.slice (adr G Ln k) (Ln k) (Ln k))).setCell ⟨N, k * 14 + 13, none⟩ (.bool false)) N G m (k + 1) A Ln Cp Fl Z := by
  have h0 := h.n0
  have h1 := h.ng
  have hlt := h.spn.lt
  refine ⟨((h.bel.grown hg h.bel.size (fun x hx => by cases hx; omega)).setCell (p := ⟨N, k * 14, none⟩) h0 _).setCell (p := ⟨N, k * 14 + 13, none⟩) h0 _, h0, h1, ?_, ?_⟩
  · exact ownsRow_setCell_below (ownsRow_setCell_below hown (a := ⟨N, k * 14, none⟩) h1 _) (a := ⟨N, k * 14 + 13, none⟩) h1 _
  · have hs := h.spn.block (hg.block N hlt (by simp; omega))
    refine ((hs.setC hk _ _).setF hk _).congr (fun i hi => ?_)
    by_cases e : i = k
    · subst e; simp
    · simp only [if_neg e]
      by_cases e2 : i < k
      · simp [e2, show i < k + 1 from by omega]
      · simp [e2, show ¬ i < k + 1 from by omega]

theorem Spans.cell_open {w : World} {N m : Nat} {A : Nat → Option Addr} {Ln Cp : Nat → Nat} {Fl : Nat → Bool} {k : Nat} {A' : Nat → Option Addr} {Cp' : Nat → Nat} {Fl' : Nat → Bool}
    (h : Spans w N m (fun i => if i < k then A' i else A i) Ln (fun i => if i < k then Cp' i else Cp i) (fun i => if i < k then Fl' i else Fl i)) (hk : k < m) :
    w.cell? ⟨N, k * 14, none⟩ = some (.slice (A k) (Ln k) (Cp k)) ∧ w.cell? ⟨N, k * 14 + 13, none⟩ = some (.bool (Fl k)) := by
  have h1 := h.cellC hk
  have h2 := h.cellF hk
  simp at h1 h2
  exact ⟨h1, h2⟩

theorem Ot.after {w0 wr w2 : World} {N G m k : Nat} {A : Nat → Option Addr} {Ln Cp : Nat → Nat} {Fl : Nat → Bool} {Z : Nat → Nat → Int} (h : Ot w0 wr N G m k A Ln Cp Fl Z) (hk : k < m) (hg : wr.grownBy w2 (some G)) :
    w2.cell? ⟨N, k * 14, none⟩ = some (.slice (A k) (Ln k) (Cp k)) ∧ w2.cell? ⟨N, k * 14 + 13, none⟩ = some (.bool (Fl k)) ∧ w2.frozen? ⟨N, k * 14, none⟩ = false ∧ w2.frozen? ⟨N, k * 14 + 13, none⟩ = false := by
  have h1 := h.ng
  have hs := h.spn.block (hg.block N h.spn.lt (by simp; omega))
  exact ⟨(hs.cell_open hk).1, (hs.cell_open hk).2, hs.frozen _, hs.frozen _⟩

set_option maxHeartbeats 1000000 in
set_option maxRecDepth 100000 in
theorem own_any (N m : Nat) (A : Nat → Option Addr) (Ln Cp : Nat → Nat) (Fl : Nat → Bool) (Z : Nat → Nat → Int) (w0 w : World) (hm : m ≤ 1048576) (hln : sumL Ln m ≤ 1048576)
    (hbel : Below w0.heap.size w0 w) (hN : w0.heap.size ≤ N) (hS : Spans w N m A Ln Cp Fl) (hA : ∀ i, i < m → (A i = none → Ln i = 0 ∧ Cp i = 0) ∧ Cells w0 0 (A i) (Ln i) (byt (Z i))) :
    Calls Trym.prog 27 #[.slice (some ⟨N, 0, none⟩) m m] w fun e w' => e = .returned (.tuple #[]) ∧ ∃ G, Ot w0 w' N G m m A Ln Cp Fl Z := by
  have HS : Hid (Spans w N m A Ln Cp Fl) := hS
  have HA : Hid (∀ i, i < m → (A i = none → Ln i = 0 ∧ Cp i = 0) ∧ Cells w0 0 (A i) (Ln i) (byt (Z i))) := hA
  have hNw := hS.lt
  clear hS hA
  go_enter Trym.func27, Trym.ntmps27
  go_wp2
  go_loopg [2, 3, 9] m (fun g t _ i wr => w = wr ∧ ∃ k : Nat, k ≤ m ∧ g = m - k ∧ i = .int .i64 k ∧ ∃ s : Nat, t = .int .i64 s ∧ s ≤ 1048576 ∧ Hid (s = sumL Ln k))
  case atStart => exact ⟨rfl, 0, Nat.zero_le _, rfl, rfl, 0, rfl, by omega, rfl⟩
  case round =>
    obtain ⟨rfl, k, hk, rfl, rfl, s, rfl, hs, hsum⟩ := hrel
    by_cases hlt : k < m
    · have g1 := HS.out.cellC hlt
      have q1 : s + Ln k ≤ 1048576 := by have := hsum.out; have := sumL_le (Ln := Ln) hlt; omega
      go_wp2
      go_roundg (m - (k + 1))
      case measure => omega
      case rel => exact ⟨rfl, k + 1, by omega, rfl, by go_num, s + Ln k, by go_num, by omega, by have := hsum.out; show _ = sumL Ln k + Ln k; omega⟩
    · have hkm : k = m := by omega
      subst hkm
      obtain rfl : s = sumL Ln k := hsum.out
      clear hsum
      obtain ⟨i5, hi, hz0, hz1, hz2⟩ := info_parts info5
      go_wp2_with (at_make; refine wpList_make_own _ rfl _ _ 40 rfl w.heap.size 5 i5 (.int .u8 0) 1 Trym.underlying40 hi hz0 hz1 .i64 .i64 _ (sumL Ln k) rfl rfl rfl (by rw [hz2]; omega) (by unfold maxLen; omega) (Nat.le_refl _) ?_; intro w1 hown hgrow)
      have h0 : Hid (Ot w0 w1 N w.heap.size k 0 A Ln Cp Fl Z) :=
        ⟨hbel.grown hgrow hbel.size (fun x hx => by cases hx), hN, hNw, hown, (HS.out.block (hgrow.block N hNw (by simp))).congr (fun i hi => by simp)⟩
      clear hown hgrow hbel HS
      generalize w.heap.size = G at *
      go_loopg [4, 5, 6, 25] k (fun g al _ _ i wr => ∃ q : Nat, q ≤ k ∧ g = k - q ∧ i = .int .i64 q ∧ al = .slice (some ⟨G, 0, none⟩) (sumL Ln q) (sumL Ln k) ∧ Ot w0 wr N G k q A Ln Cp Fl Z)
      case atStart => exact ⟨0, Nat.zero_le _, rfl, rfl, rfl, h0⟩
      case round =>
        obtain ⟨q, hq, rfl, rfl, rfl, hO⟩ := hrel
        clear h0
        by_cases hlt2 : q < k
        · obtain ⟨g1, g2⟩ := hO.spn.cell_open hlt2
          have hsl := sumL_le (Ln := Ln) hlt2
          have hown := hO.own
          have Hcell : Hid (Cells wr 0 (A q) (Ln q) (byt (Z q))) := (HA.out q hlt2).2.below hO.bel
          have Hnil : Hid (A q = none → Ln q = 0 ∧ Cp q = 0) := (HA.out q hlt2).1
          have hnews : Hid (∀ ad, A q = some ad → ∀ j u, ((List.range (Ln q)).map (byt (Z q)))[j]? = some u → wr.cell? (ad.add j) = some u) := by
            intro ad had j u hu
            have hj : j < Ln q := by
              have := (List.getElem?_eq_some_iff.1 hu).1
              simpa using this
            obtain ⟨b, off, ha, _, _, hc⟩ := Hcell.out (by omega)
            rw [ha] at had
            obtain rfl := Option.some.inj had
            rw [WideShapes.add_plain, hc j hj]
            simpa [hj] using hu
          have h1c : Hid (∀ u ∈ (List.range (Ln q)).map (byt (Z q)), u.oneCell' = true) := by
            intro u hu
            obtain ⟨j, _, rfl⟩ := List.mem_map.1 hu
            rfl
          have hb1 : sumL Ln q + Ln q ≤ sumL Ln k := hsl
          have Hown : Hid (wr.ownsRow G 5 1 (.slice (some ⟨G, 0, none⟩) (sumL Ln q) (sumL Ln k)) (sumL Ln q) (cat Ln Z q)) := hown
          clear hown Hcell
          by_cases hz : Ln q = 0
          · have Hz : Hid (Ln q = 0) := hz
            clear hz
            go_wp2_with (at_builtin; refine wpList_append_fits_any _ rfl (.tmp 30) (.tmp 35) 40 rfl G 5 i5 1 Trym.underlying40 hi hz1 G (sumL Ln q) (sumL Ln k) (cat Ln Z q) rfl Hown.out (A q) (Ln q) (Cp q) ((List.range (Ln q)).map (byt (Z q))) rfl (by simp) Hnil.out hnews.out h1c.out hb1 ?_; intro w2 hown2 hgrow2; obtain ⟨d1, d2, d3, d4⟩ := hO.after hlt2 hgrow2; have hz' : sumL Ln q + Ln q ≤ sumL Ln q := (by have := Hz.out; omega))
            have hN2 := hO.next hlt2 hown2 hgrow2
            rw [show adr G Ln q = some ⟨G, 0, none⟩ from by simp [adr, Hz.out], Hz.out] at hN2
            go_roundg (k - (q + 1))
            case measure => omega
            case rel => exact ⟨q + 1, by omega, rfl, by go_num, rfl, hN2⟩
          · have hz' : 1 ≤ Ln q := by omega
            clear hz
            go_wp2_with (at_builtin; refine wpList_append_fits_any _ rfl (.tmp 30) (.tmp 35) 40 rfl G 5 i5 1 Trym.underlying40 hi hz1 G (sumL Ln q) (sumL Ln k) (cat Ln Z q) rfl Hown.out (A q) (Ln q) (Cp q) ((List.range (Ln q)).map (byt (Z q))) rfl (by simp) Hnil.out hnews.out h1c.out hb1 ?_; intro w2 hown2 hgrow2; obtain ⟨d1, d2, d3, d4⟩ := hO.after hlt2 hgrow2; skip)
            have hN2 := hO.next hlt2 hown2 hgrow2
            rw [show adr G Ln q = some ⟨G, sumL Ln q, none⟩ from by simp [adr]; omega] at hN2
            go_roundg (k - (q + 1))
            case measure => omega
            case rel => exact ⟨q + 1, by omega, rfl, by go_num, rfl, hN2⟩
        · have hqk : q = k := by omega
          subst hqk
          go_wp2
          go_end0
          exact ⟨rfl, G, hO⟩

end Go.Proofs.Qxb6601076aMods.Own
