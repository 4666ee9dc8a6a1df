/- THE PLAIN LAW of the heap-shaped tree: no Go in sight. -/
import Derived.Test.Qxb6601076aModsSteps
namespace Go.Proofs.Qxb6601076aMods.Tree
open Go.Proofs.Qxb6601076aMods.Steps
set_option linter.unusedVariables false

/-- The first place of level d under i. -/
def lo : Nat → Nat → Nat
  | 0, i => i
  | d + 1, i => 2 * lo d i + 1
/-- The last. -/
def hi : Nat → Nat → Nat
  | 0, i => i
  | d + 1, i => 2 * hi d i + 2

theorem lo_left (d i : Nat) : lo d (2 * i + 1) = lo (d + 1) i := by
  induction d with
  | zero => rfl
  | succ d ih => show 2 * lo d (2 * i + 1) + 1 = 2 * lo (d + 1) i + 1; rw [ih]

theorem hi_right (d i : Nat) : hi d (2 * i + 2) = hi (d + 1) i := by
  induction d with
  | zero => rfl
  | succ d ih => show 2 * hi d (2 * i + 2) + 2 = 2 * hi (d + 1) i + 2; rw [ih]

theorem lo_right (d i : Nat) : lo d (2 * i + 2) = hi d (2 * i + 1) + 1 := by
  induction d with
  | zero => rfl
  | succ d ih => show 2 * lo d (2 * i + 2) + 1 = 2 * hi d (2 * i + 1) + 2 + 1; rw [ih]; omega

theorem lo_le_hi (d i : Nat) : lo d i ≤ hi d i := by
  induction d with
  | zero => exact Nat.le_refl _
  | succ d ih => show 2 * lo d i + 1 ≤ 2 * hi d i + 2; omega

theorem hi_le (d i : Nat) : hi d i ≤ 2 * lo d i := by
  induction d with
  | zero => show i ≤ 2 * i; omega
  | succ d ih => show 2 * hi d i + 2 ≤ 2 * (2 * lo d i + 1); omega

theorem le_lo (d i : Nat) : i ≤ lo d i := by
  induction d with
  | zero => exact Nat.le_refl _
  | succ d ih => show i ≤ 2 * lo d i + 1; omega

theorem lo_mono (e d i : Nat) : lo d i ≤ lo (d + e) i := by
  induction e with
  | zero => exact Nat.le_refl _
  | succ e ih => show lo d i ≤ 2 * lo (d + e) i + 1; omega

/-- Place j lies in the subtree of i. -/
def D (i j : Nat) : Prop := ∃ d, lo d i ≤ j ∧ j ≤ hi d i

theorem D_self (i : Nat) : D i i := ⟨0, Nat.le_refl _, Nat.le_refl _⟩

theorem D_ge {i j : Nat} (h : D i j) : i ≤ j := by
  obtain ⟨d, h1, h2⟩ := h
  have := le_lo d i
  omega

theorem D_left {i j : Nat} (h : D (2 * i + 1) j) : D i j := by
  obtain ⟨d, h1, h2⟩ := h
  refine ⟨d + 1, by rw [← lo_left]; exact h1, ?_⟩
  have e1 := lo_right d i
  have e2 := lo_le_hi d (2 * i + 2)
  rw [← hi_right]
  omega

theorem D_right {i j : Nat} (h : D (2 * i + 2) j) : D i j := by
  obtain ⟨d, h1, h2⟩ := h
  refine ⟨d + 1, ?_, by rw [← hi_right]; exact h2⟩
  have e1 := lo_right d i
  have e2 := lo_le_hi d (2 * i + 1)
  rw [← lo_left]
  omega

theorem D_split {i j : Nat} (h : D i j) : j = i ∨ D (2 * i + 1) j ∨ D (2 * i + 2) j := by
  obtain ⟨d, h1, h2⟩ := h
  cases d with
  | zero => exact .inl (by have : lo 0 i = i := rfl; have : hi 0 i = i := rfl; omega)
  | succ d =>
    rw [← lo_left] at h1
    rw [← hi_right] at h2
    by_cases c : j ≤ hi d (2 * i + 1)
    · exact .inr (.inl ⟨d, h1, c⟩)
    · exact .inr (.inr ⟨d, by rw [lo_right]; omega, h2⟩)

/-- m is the least of z over the subtree of i. -/
def Min (z : Nat → Int) (n i : Nat) (m : Int) : Prop := (∃ j, D i j ∧ j < n ∧ z j = m) ∧ ∀ j, D i j → j < n → m ≤ z j

theorem min_one {z : Nat → Int} {n i : Nat} {m m' : Int} (h : Min z n i m) (h' : Min z n i m') : m = m' := by
  obtain ⟨⟨j, a1, a2, rfl⟩, a3⟩ := h
  obtain ⟨⟨k, b1, b2, rfl⟩, b3⟩ := h'
  have := a3 k b1 b2
  have := b3 j a1 a2
  omega

theorem lesser_le (a b : Int) : lesser a b ≤ a ∧ lesser a b ≤ b ∧ (lesser a b = a ∨ lesser a b = b) := by
  unfold lesser
  split <;> omega

theorem min_leaf {z : Nat → Int} {n i : Nat} (hi : i < n) (h : n ≤ 2 * i + 1) : Min z n i (z i) := by
  refine ⟨⟨i, D_self i, hi, rfl⟩, fun j hj hn => ?_⟩
  rcases D_split hj with rfl | h' | h'
  · exact Int.le_refl _
  · have := D_ge h'; omega
  · have := D_ge h'; omega

theorem min_left {z : Nat → Int} {n i : Nat} {m1 : Int} (hi : i < n) (h : n ≤ 2 * i + 2) (h1 : Min z n (2 * i + 1) m1) : Min z n i (lesser (z i) m1) := by
  obtain ⟨⟨j, a1, a2, rfl⟩, a3⟩ := h1
  have hl := lesser_le (z i) (z j)
  refine ⟨?_, fun k hk hn => ?_⟩
  · rcases hl.2.2 with e | e
    · exact ⟨i, D_self i, hi, e.symm⟩
    · exact ⟨j, D_left a1, a2, e.symm⟩
  · rcases D_split hk with rfl | h' | h'
    · exact hl.1
    · have := a3 k h' hn; omega
    · have := D_ge h'; omega

theorem min_both {z : Nat → Int} {n i : Nat} {m1 m2 : Int} (hi : i < n) (h1 : Min z n (2 * i + 1) m1) (h2 : Min z n (2 * i + 2) m2) : Min z n i (lesser (lesser (z i) m1) m2) := by
  obtain ⟨⟨j, a1, a2, rfl⟩, a3⟩ := h1
  obtain ⟨⟨k, b1, b2, rfl⟩, b3⟩ := h2
  have hl := lesser_le (z i) (z j)
  have hr := lesser_le (lesser (z i) (z j)) (z k)
  refine ⟨?_, fun x hx hn => ?_⟩
  · rcases hr.2.2 with e | e
    · rcases hl.2.2 with e' | e'
      · exact ⟨i, D_self i, hi, by omega⟩
      · exact ⟨j, D_left a1, a2, by omega⟩
    · exact ⟨k, D_right b1, b2, e.symm⟩
  · rcases D_split hx with rfl | h' | h'
    · omega
    · have := a3 x h' hn; omega
    · have := b3 x h' hn; omega

/-- Levels below d are seen, and of level d the places below jj: m is the least so far. -/
def Seen (z : Nat → Int) (n i d jj : Nat) (m : Int) : Prop :=
  (∃ j, D i j ∧ j < n ∧ z j = m) ∧ (∀ d', d' < d → ∀ j, lo d' i ≤ j → j ≤ hi d' i → j < n → m ≤ z j) ∧ ∀ j, lo d i ≤ j → j < jj → j ≤ hi d i → j < n → m ≤ z j

theorem seen_start {z : Nat → Int} {n i : Nat} (h : i < n) : Seen z n i 0 (lo 0 i) (z i) :=
  ⟨⟨i, D_self i, h, rfl⟩, fun d' h' => absurd h' (Nat.not_lt_zero _), fun j h1 h2 => by omega⟩

theorem seen_keep {z : Nat → Int} {n i d jj : Nat} {m : Int} (h : Seen z n i d jj m) (hm : m ≤ z jj) : Seen z n i d (jj + 1) m :=
  ⟨h.1, h.2.1, fun j h1 h2 h3 h4 => by
    by_cases e : j = jj
    · rw [e]; exact hm
    · exact h.2.2 j h1 (by omega) h3 h4⟩

theorem seen_less {z : Nat → Int} {n i d jj : Nat} {m : Int} (h : Seen z n i d jj m) (hm : z jj < m) (hl : lo d i ≤ jj) (hh : jj ≤ hi d i) (hn : jj < n) : Seen z n i d (jj + 1) (z jj) :=
  ⟨⟨jj, ⟨d, hl, hh⟩, hn, rfl⟩, fun d' h' j h1 h2 h3 => by have := h.2.1 d' h' j h1 h2 h3; omega, fun j h1 h2 h3 h4 => by
    by_cases e : j = jj
    · rw [e]; exact Int.le_refl _
    · have := h.2.2 j h1 (by omega) h3 h4; omega⟩

theorem seen_next {z : Nat → Int} {n i d jj : Nat} {m : Int} (h : Seen z n i d jj m) (hj : hi d i < jj ∨ n ≤ jj) : Seen z n i (d + 1) (lo (d + 1) i) m :=
  ⟨h.1, fun d' h' j h1 h2 h3 => by
    by_cases e : d' = d
    · subst e; exact h.2.2 j h1 (by omega) h2 h3
    · exact h.2.1 d' (by omega) j h1 h2 h3, fun j h1 h2 => by omega⟩

theorem seen_done {z : Nat → Int} {n i d jj : Nat} {m : Int} (h : Seen z n i d jj m) (hd : n ≤ lo d i) : Min z n i m := by
  refine ⟨h.1, fun j hj hn => ?_⟩
  obtain ⟨d', h1, h2⟩ := hj
  by_cases c : d' < d
  · exact h.2.1 d' c j h1 h2 hn
  · have := lo_mono (d' - d) d i
    rw [show d + (d' - d) = d' from by omega] at this
    omega

end Go.Proofs.Qxb6601076aMods.Tree
