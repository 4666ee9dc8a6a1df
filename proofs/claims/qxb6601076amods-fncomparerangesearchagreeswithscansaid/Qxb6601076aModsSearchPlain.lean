/- THE PLAIN LAW of the search: no Go in sight. -/
import Derived.Test.Qxb6601076aModsBase
namespace Go.Proofs.Qxb6601076aMods.Search
set_option linter.unusedVariables false
open Go.Proofs.Qxb6601076aMods.Base

/-- Range j holds k. -/
def Holds (z : Nat → Int) (len : Nat) (k : Int) (j : Nat) : Prop := j + 1 < len ∧ z j ≤ k ∧ k < z (j + 1)

/-- The bounds rise strictly below n. -/
def Rises (z : Nat → Int) (n : Nat) : Prop := ∀ j, j + 1 < n → z j < z (j + 1)

/-- The answer of a look for the range that holds k. -/
def Is (z : Nat → Int) (len : Nat) (k : Int) (f : Int) : Prop := (f = -1 ∧ ∀ j, ¬ Holds z len k j) ∨ ∃ j : Nat, f = j ∧ Holds z len k j

theorem rises_le {z : Nat → Int} {n : Nat} (h : Rises z n) : ∀ d i, i + d < n → z i ≤ z (i + d) := by
  intro d
  induction d with
  | zero => intro i _; simp
  | succ d ih =>
    intro i hi
    have h1 := ih i (by omega)
    have h2 := h (i + d) (by omega)
    have : i + (d + 1) = i + d + 1 := by omega
    rw [this]
    omega

theorem rises_mono {z : Nat → Int} {n : Nat} (h : Rises z n) {i j : Nat} (hij : i ≤ j) (hj : j < n) : z i ≤ z j := by
  obtain ⟨d, rfl⟩ : ∃ d, j = i + d := ⟨j - i, by omega⟩
  exact rises_le h d i hj

theorem holds_one {z : Nat → Int} {len : Nat} {k : Int} (h : Rises z len) {i j : Nat} (hi : Holds z len k i) (hj : Holds z len k j) : i = j := by
  obtain ⟨a1, a2, a3⟩ := hi
  obtain ⟨b1, b2, b3⟩ := hj
  rcases Nat.lt_trichotomy i j with h1 | h1 | h1
  · have := rises_mono h (i := i + 1) (j := j) (by omega) (by omega)
    omega
  · exact h1
  · have := rises_mono h (i := j + 1) (j := i) (by omega) (by omega)
    omega

theorem is_one {z : Nat → Int} {len : Nat} {k f g : Int} (h : Rises z len) (hf : Is z len k f) (hg : Is z len k g) : f = g := by
  rcases hf with ⟨rfl, hf⟩ | ⟨i, rfl, hi⟩
  · rcases hg with ⟨rfl, _⟩ | ⟨j, rfl, hj⟩
    · rfl
    · exact absurd hj (hf j)
  · rcases hg with ⟨rfl, hg⟩ | ⟨j, rfl, hj⟩
    · exact absurd hi (hg i)
    · rw [holds_one h hi hj]

/-- The search's relation: what lies left of lo ends at or below k, what lies from hi on begins above k. -/
def Between (z : Nat → Int) (len : Nat) (k : Int) (l h : Nat) : Prop := (∀ j, j < l → j + 1 < len → z (j + 1) ≤ k) ∧ ∀ j, h ≤ j → j + 1 < len → k < z j

theorem between_start (z : Nat → Int) (len : Nat) (k : Int) : Between z len k 0 (len - 1) :=
  ⟨fun j hj => absurd hj (Nat.not_lt_zero _), fun j h1 h2 => by omega⟩

theorem between_left {z : Nat → Int} {len : Nat} {k : Int} {l h m : Nat} (hr : Rises z len) (hb : Between z len k l h) (hm : m + 1 < len) (hk : z (m + 1) ≤ k) : Between z len k (m + 1) h :=
  ⟨fun j hj hl => by have := rises_mono hr (i := j + 1) (j := m + 1) (by omega) (by omega); omega, hb.2⟩

theorem between_right {z : Nat → Int} {len : Nat} {k : Int} {l h m : Nat} (hr : Rises z len) (hb : Between z len k l h) (hm : m + 1 < len) (hk : k < z m) : Between z len k l m :=
  ⟨hb.1, fun j hj hl => by have := rises_mono hr (i := m) (j := j) (by omega) (by omega); omega⟩

theorem between_done {z : Nat → Int} {len : Nat} {k : Int} {l h : Nat} (hb : Between z len k l h) (hlh : h ≤ l) : Is z len k (-1) := by
  refine .inl ⟨rfl, fun j hj => ?_⟩
  obtain ⟨a1, a2, a3⟩ := hj
  by_cases c : j < l
  · have := hb.1 j c a1; omega
  · have := hb.2 j (by omega) a1; omega

end Go.Proofs.Qxb6601076aMods.Search
