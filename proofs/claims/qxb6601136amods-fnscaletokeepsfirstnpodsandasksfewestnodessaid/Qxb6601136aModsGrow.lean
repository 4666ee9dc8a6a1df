/- A list of pairs that grows by one: the cells as one list. -/
import Derived.Test.Qxb6601136aModsPool
namespace Go.Proofs.Qxb6601136aMods.Grow
open Go.ChangeShapes Go.WideShapes Go.ChangeAt Go.RowKit
open Go.Proofs.Qxb6601136aMods.Mem
set_option linter.unusedSimpArgs false
set_option linter.unusedVariables false

/-- The cells of n pairs, one behind the other. -/
def prl (kd : IntKind) (P Q : Nat → Int) : Nat → List Value
  | 0 => []
  | k + 1 => prl kd P Q k ++ [.int .i64 (P k), .int kd (Q k)]

theorem prl_length (kd : IntKind) (P Q : Nat → Int) (n : Nat) : (prl kd P Q n).length = n * 2 := by
  induction n with
  | zero => rfl
  | succ n ih => simp [prl, ih]; omega

theorem prl_at (kd : IntKind) (P Q : Nat → Int) {i : Nat} : ∀ n, i < n → (prl kd P Q n)[i * 2]? = some (.int .i64 (P i)) ∧ (prl kd P Q n)[i * 2 + 1]? = some (.int kd (Q i)) := by
  intro n hn
  induction n with
  | zero => omega
  | succ n ih =>
    show (prl kd P Q n ++ [.int .i64 (P n), .int kd (Q n)])[i * 2]? = _ ∧ (prl kd P Q n ++ [.int .i64 (P n), .int kd (Q n)])[i * 2 + 1]? = _
    by_cases e : i = n
    · subst e
      constructor
      · rw [List.getElem?_append_right (by rw [prl_length]; omega), prl_length]; simp
      · rw [List.getElem?_append_right (by rw [prl_length]; omega), prl_length, show i * 2 + 1 - i * 2 = 1 from by omega]; simp
    · constructor
      · rw [List.getElem?_append_left (by rw [prl_length]; omega)]; exact (ih (by omega)).1
      · rw [List.getElem?_append_left (by rw [prl_length]; omega)]; exact (ih (by omega)).2

theorem prl_congr (kd : IntKind) {P Q P' Q' : Nat → Int} : ∀ n, (∀ j, j < n → P j = P' j ∧ Q j = Q' j) → prl kd P Q n = prl kd P' Q' n := by
  intro n
  induction n with
  | zero => intro _; rfl
  | succ n ih =>
    intro h
    show prl kd P Q n ++ _ = prl kd P' Q' n ++ _
    rw [ih (fun j hj => h j (by omega)), (h n (by omega)).1, (h n (by omega)).2]

/-- A function turned from place n on. -/
def upd (P : Nat → Int) (n : Nat) (x : Int) : Nat → Int := fun j => if j < n then P j else x

theorem prl_snoc (kd : IntKind) (P Q : Nat → Int) (n : Nat) (x y : Int) : prl kd P Q n ++ [.int .i64 x, .int kd y] = prl kd (upd P n x) (upd Q n y) (n + 1) := by
  show _ = prl kd (upd P n x) (upd Q n y) n ++ [.int .i64 (upd P n x n), .int kd (upd Q n y n)]
  rw [prl_congr kd (P := P) (Q := Q) (P' := upd P n x) (Q' := upd Q n y) n (fun j hj => by simp [upd, hj])]
  simp [upd]

theorem prs_olds {kd : IntKind} {w : World} {lo : Nat} {a : Option Addr} {n : Nat} {P Q : Nat → Int} (h : Prs kd w lo a n P Q) : ∀ b, a = some b → ∀ j u, (prl kd P Q n)[j]? = some u → w.cell? (b.add j) = some u := by
  intro b0 hb j u hu
  have hj : j < n * 2 := by
    have := (List.getElem?_eq_some_iff.1 hu).1
    rw [prl_length] at this
    exact this
  obtain ⟨b, off, ha, _, _, hc⟩ := h (by omega)
  rw [ha] at hb
  obtain rfl := Option.some.inj hb
  rw [WideShapes.add_plain]
  obtain ⟨c1, c2⟩ := hc (j / 2) (by omega)
  obtain ⟨e1, e2⟩ := prl_at kd P Q (i := j / 2) n (by omega)
  rcases Nat.mod_two_eq_zero_or_one j with hm | hm
  · rw [show j / 2 * 2 = j from by omega] at c1 e1
    rw [c1, ← e1, hu]
  · rw [show j / 2 * 2 + 1 = j from by omega] at c2 e2
    rw [c2, ← e2, hu]

/-- What an append that grows leaves, as a list of pairs. -/
theorem own_prs {kd : IntKind} {w : World} {base : Nat} {e : TypeId} {v : Value} {n : Nat} {P Q : Nat → Int} (h : w.ownsRow base e 2 v (n + 1) (prl kd P Q (n + 1))) :
    ∃ g cp, v = .slice (some ⟨g, 0, none⟩) (n + 1) cp ∧ base ≤ g ∧ g < w.heap.size ∧ Prs kd w base (some ⟨g, 0, none⟩) (n + 1) P Q := by
  obtain ⟨hl, h2⟩ := h
  rcases h2 with ⟨_, h0⟩ | ⟨g, cp, cur, hv, hg, hh, hn, hm, hsz, htk⟩
  · omega
  · have hlt : g < w.heap.size := (Array.getElem?_eq_some_iff.1 hh).1
    have hcell : ∀ j, j < (n + 1) * 2 → w.cell? ⟨g, j, none⟩ = (prl kd P Q (n + 1))[j]? := by
      intro j hj
      simp only [World.cell?, hh]
      rw [← htk, List.getElem?_take_of_lt (by omega)]
      simp
    refine ⟨g, cp, hv, hg, hlt, fun _ => ⟨g, 0, rfl, hg, hlt, fun j hj => ?_⟩⟩
    obtain ⟨e1, e2⟩ := prl_at kd P Q (i := j) (n + 1) hj
    exact ⟨by rw [Nat.zero_add, hcell _ (by omega)]; exact e1, by rw [Nat.zero_add, hcell _ (by omega)]; exact e2⟩

theorem news_two {w : World} {x y : Value} {t : TypeId} : ∀ j u, [x, y][j]? = some u → (w.alloc (.cells #[x, y] t)).cell? ((⟨w.heap.size, 0, none⟩ : Addr).add j) = some u := by
  intro j u hj
  rw [WideShapes.add_plain]
  match j, hj with
  | 0, hj => simp at hj; subst hj; simp
  | 1, hj => simp at hj; subst hj; simp

end Go.Proofs.Qxb6601136aMods.Grow
