/- The plain law of the shrinking: which cohorts are kept. -/
namespace Go.Proofs.Qxb6601136aMods.Shr
set_option linter.unusedSimpArgs false
set_option linter.unusedVariables false

/-- The sum of the first k. -/
def sm (Q : Nat → Int) : Nat → Int
  | 0 => 0
  | k + 1 => sm Q k + Q k

/-- How the cohorts stand while they are cut from the end: m of n are left, only the last of these may be cut. -/
def Cut (n : Nat) (Q : Nat → Int) (m : Nat) (Q' : Nat → Int) (s f : Int) : Prop :=
  m ≤ n ∧ (∀ j, j + 1 < m → Q' j = Q j) ∧ (0 < m → s = sm Q (m - 1) + Q' (m - 1) ∧ 0 < Q' (m - 1) ∧ Q' (m - 1) ≤ Q (m - 1) ∧ (0 < f → Q' (m - 1) = Q (m - 1))) ∧ (m = 0 → s = 0) ∧ 0 ≤ f

/-- What shrunkRight looks for: each cohort kept as long as there is something left. -/
def Kept (n : Nat) (Q : Nat → Int) (m : Nat) (Q' : Nat → Int) (s : Int) (L : Nat → Int) : Prop :=
  m ≤ n ∧ L 0 = s ∧ L m = 0 ∧ ∀ i, i < m → 0 < L i ∧ L i ≤ s ∧ L (i + 1) = L i - Q' i ∧ ((Q i < L i ∧ Q' i = Q i) ∨ (L i ≤ Q i ∧ Q' i = L i))

section
variable {n m : Nat} {Q Q' Q'' : Nat → Int} {s f : Int}

theorem sm_mono (hpos : ∀ j, j < n → 0 < Q j) : ∀ j, j ≤ n → ∀ i, i ≤ j → sm Q i ≤ sm Q j := by
  intro j
  induction j with
  | zero => intro _ i hi; rw [show i = 0 from by omega]; exact Int.le_refl _
  | succ j ih =>
    intro hj i hi
    by_cases e : i = j + 1
    · subst e; exact Int.le_refl _
    · have h1 := ih (by omega) i (by omega)
      have h2 := hpos j (by omega)
      show sm Q i ≤ sm Q j + Q j
      omega

theorem cut_start (hpos : ∀ j, j < n → 0 < Q j) (hs : sm Q n = s) (hf : 0 ≤ f) : Cut n Q n Q s f := by
  refine ⟨Nat.le_refl _, fun _ _ => rfl, fun hn => ⟨?_, hpos _ (by omega), Int.le_refl _, fun _ => rfl⟩, fun h => ?_, hf⟩
  · rw [← hs]
    obtain ⟨k, rfl⟩ : ∃ k, n = k + 1 := ⟨n - 1, by omega⟩
    rfl
  · subst h; rw [← hs]; rfl

theorem cut_drop (hpos : ∀ j, j < n → 0 < Q j) (h : Cut n Q m Q' s f) (hm : 0 < m) (hf : 0 < f) (hle : Q' (m - 1) ≤ f) (he : ∀ j, j + 1 < m → Q'' j = Q' j) : Cut n Q (m - 1) Q'' (s - Q' (m - 1)) (f - Q' (m - 1)) := by
  obtain ⟨h1, h2, h3, h4, h5⟩ := h
  obtain ⟨a1, a2, a3, a4⟩ := h3 hm
  refine ⟨by omega, fun j hj => by rw [he j (by omega)]; exact h2 j (by omega), fun hm1 => ?_, fun hz => ?_, by omega⟩
  · obtain ⟨k, rfl⟩ : ∃ k, m = k + 2 := ⟨m - 2, by omega⟩
    simp only [show k + 2 - 1 = k + 1 from by omega, Nat.add_sub_cancel] at a1 a2 a3 a4 ⊢
    rw [he k (by omega), h2 k (by omega)]
    refine ⟨?_, hpos k (by omega), Int.le_refl _, fun _ => rfl⟩
    have : sm Q (k + 1) = sm Q k + Q k := rfl
    omega
  · obtain rfl : m = 1 := by omega
    simp only [show 1 - 1 = 0 from rfl] at a1 a2 a3 a4 ⊢
    have : sm Q 0 = 0 := rfl
    omega

theorem cut_cut (h : Cut n Q m Q' s f) (hm : 0 < m) (hf : 0 < f) (hlt : f < Q' (m - 1)) (he : ∀ j, j + 1 < m → Q'' j = Q' j) (hl : Q'' (m - 1) = Q' (m - 1) - f) : Cut n Q m Q'' (s - f) 0 := by
  obtain ⟨h1, h2, h3, h4, h5⟩ := h
  obtain ⟨a1, a2, a3, a4⟩ := h3 hm
  refine ⟨h1, fun j hj => by rw [he j hj]; exact h2 j hj, fun _ => ?_, fun hz => by omega, Int.le_refl _⟩
  rw [hl]
  refine ⟨by omega, by omega, by omega, fun h => by omega⟩

theorem cut_bd (hpos : ∀ j, j < n → 0 < Q j) (h : Cut n Q m Q' s f) (hm : 0 < m) : 0 < Q' (m - 1) ∧ Q' (m - 1) ≤ s := by
  obtain ⟨h1, h2, h3, h4, h5⟩ := h
  obtain ⟨a1, a2, a3, a4⟩ := h3 hm
  have := sm_mono hpos (m - 1) (by omega) 0 (Nat.zero_le _)
  have h0 : sm Q 0 = 0 := rfl
  omega

theorem cut_kept (hpos : ∀ j, j < n → 0 < Q j) (h : Cut n Q m Q' s f) : Kept n Q m Q' s (fun i => if i < m then s - sm Q i else 0) := by
  obtain ⟨h1, h2, h3, h4, h5⟩ := h
  refine ⟨h1, ?_, ?_, fun i hi => ?_⟩
  · by_cases hm : 0 < m
    · simp only [hm, if_true]
      show s - 0 = s
      omega
    · simp only [hm, if_false]
      exact (h4 (by omega)).symm
  · simp
  · obtain ⟨a1, a2, a3, a4⟩ := h3 (by omega)
    have b1 := sm_mono hpos (m - 1) (by omega) i (by omega)
    have b0 := sm_mono hpos i (by omega) 0 (Nat.zero_le _)
    have h0 : sm Q 0 = 0 := rfl
    have e1 : sm Q (i + 1) = sm Q i + Q i := rfl
    simp only [hi, if_true]
    by_cases hl : i + 1 < m
    · simp only [hl, if_true]
      have b2 := sm_mono hpos (m - 1) (by omega) (i + 1) (by omega)
      have b3 := h2 i hl
      refine ⟨by omega, by omega, by omega, Or.inl ⟨by omega, b3⟩⟩
    · obtain rfl : m = i + 1 := by omega
      simp only [show i + 1 - 1 = i from by omega] at a1 a2 a3 a4 b1
      simp only [hl, if_false]
      refine ⟨by omega, by omega, by omega, Or.inr ⟨by omega, by omega⟩⟩
end

def mn (a b : Int) : Int := if a < b then a else b
def mx (a b : Int) : Int := if b < a then a else b

/-- What a shrinking leaves, plainly. -/
def ShrP (r s x : Int) (n : Nat) (Q : Nat → Int) (m : Nat) (Q' : Nat → Int) (r' s' p' : Int) : Prop :=
  r' = mn r x ∧ s' = mx (mn (x - r) s) 0 ∧ p' = mx (x - r - s) 0 ∧ ∃ L, Kept n Q m Q' s' L

theorem shr_of {r s p x f0 k f1 f s' : Int} {n m : Nat} {Q Q' : Nat → Int} (hpos : ∀ j, j < n → 0 < Q j) (hr : 0 ≤ r) (hs : 0 ≤ s) (hp : 0 ≤ p) (hx : 0 ≤ x) (hxe : x ≤ r + s + p) (h0 : f0 = r + s + p - x) (hk : k = mn f0 p) (h1 : f1 = f0 - k) (hs' : s' = s - (f1 - f))
    (h : Cut n Q m Q' s' f) (hend : f = 0 ∨ m = 0) (hs0 : 0 ≤ s') : ShrP r s x n Q m Q' (r - f) s' (p - k) := by
  have hk' := cut_kept hpos h
  obtain ⟨_, _, _, h4, h5⟩ := h
  have hz : f = 0 ∨ s' = 0 := by
    rcases hend with e | e
    · exact Or.inl e
    · exact Or.inr (h4 e)
  clear h4 hend
  refine ⟨?_, ?_, ?_, _, hk'⟩
  · unfold mn at *; split at hk <;> split <;> omega
  · unfold mx mn at *; split at hk <;> split <;> (try split) <;> (try split) <;> omega
  · unfold mx mn at *; split at hk <;> split <;> omega

end Go.Proofs.Qxb6601136aMods.Shr
