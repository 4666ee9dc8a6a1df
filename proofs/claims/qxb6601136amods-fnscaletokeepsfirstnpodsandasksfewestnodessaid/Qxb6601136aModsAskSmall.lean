/- The plain law of ask; the contracts of coverMinimal, joinedRight. -/
import Derived.Test.Qxb6601136aModsGrow
namespace Go.Proofs.Qxb6601136aMods.Ask
open Go.ChangeShapes Go.WideShapes Go.ChangeAt Go.RowKit
open Go.Proofs.Qxb6601136aMods.Mem Go.Proofs.Qxb6601136aMods.Pool Go.Proofs.Qxb6601136aMods.Grow
set_option linter.unusedSimpArgs false
set_option linter.unusedVariables false

/-- How many nodes are asked for. -/
def need (pn base p : Int) : Int := if p ≤ base then 0 else (p - base + pn - 1) / pn

theorem need_zero {pn base p : Int} (h : p ≤ base) : need pn base p = 0 := by simp [need, h]

theorem need_pos {pn base p : Int} (h1 : 1 ≤ pn) (h : base < p) : need pn base p = (p - base + pn - 1) / pn ∧ 1 ≤ need pn base p ∧ p ≤ base + need pn base p * pn ∧ base + (need pn base p - 1) * pn < p ∧ need pn base p ≤ p - base := by
  have e : need pn base p = (p - base + pn - 1) / pn := by
    unfold need
    rw [if_neg (by omega)]
  refine ⟨e, ?_⟩
  rw [e]
  generalize hu : p - base = u
  have hu1 : 1 ≤ u := by omega
  have hpn : 0 < pn := by omega
  have a1 : (u + pn - 1) / pn * pn ≤ u + pn - 1 := Int.ediv_mul_le _ (by omega)
  have a2 : u + pn - 1 < ((u + pn - 1) / pn + 1) * pn := Int.lt_ediv_add_one_mul_self _ hpn
  have a3 : 1 ≤ (u + pn - 1) / pn := by
    rw [Int.le_ediv_iff_mul_le hpn]
    omega
  generalize (u + pn - 1) / pn = k at *
  have m1 : (k + 1) * pn = k * pn + pn := by rw [Int.add_mul]; omega
  have m2 : (k - 1) * pn = k * pn - pn := by rw [Int.sub_mul]; omega
  rw [m1] at a2
  rw [m2]
  refine ⟨a3, by omega, by omega, ?_⟩
  have a4 : (k - 1) * 1 ≤ (k - 1) * pn := Int.mul_le_mul_of_nonneg_left h1 (by omega)
  omega

theorem base_bd {pn jn : Int} (h1 : 0 ≤ pn) (h2 : pn ≤ 2147483647) (h3 : 0 ≤ jn) (h4 : jn ≤ 4294967296) : 0 ≤ jn * pn ∧ jn * pn ≤ 9223372032559808512 := by
  refine ⟨Int.mul_nonneg h3 h1, ?_⟩
  have a1 : jn * pn ≤ 4294967296 * pn := Int.mul_le_mul_of_nonneg_right h4 h1
  omega

/-- coverMinimal says yes to need. -/
theorem cover_any (pn jn p base : Int) (w : World) (h1 : 1 ≤ pn) (h2 : pn ≤ 2147483647) (hb : jn * pn = base) (hb0 : 0 ≤ base) (hb1 : base ≤ 9223372032559808512) (hp : -2147483648 ≤ p) (hp1 : p ≤ 2147483647) :
    Calls Trym.prog 13 #[.int .i64 pn, .int .i64 jn, .int .i64 p, .int .i64 (need pn base p)] w fun e w' => e = .returned (.bool true) ∧ w = w' := by
  by_cases c : p ≤ base
  · rw [need_zero c]
    go_enter Trym.func13, Trym.ntmps13
    go_wp2
    go_ret
    exact ⟨rfl, rfl⟩
  · obtain ⟨ke, k1, k2, k3, k4⟩ := need_pos (pn := pn) (base := base) (p := p) h1 (by omega)
    clear ke
    generalize need pn base p = k at *
    have m2 : (k - 1) * pn = k * pn - pn := by rw [Int.sub_mul]; omega
    have hkp : k * pn ≤ 4294967296 := by omega
    have hkp0 : 0 ≤ k * pn := Int.mul_nonneg (by omega) (by omega)
    rw [m2] at k3
    generalize hkpe : k * pn = kp at *
    have k0 : (k == 0) = false := by simp; omega
    have kb : decide (k < 0) = false := by simp; omega
    go_enter Trym.func13, Trym.ntmps13
    go_wp2
    go_ret
    exact ⟨rfl, rfl⟩

set_option maxHeartbeats 1000000 in
set_option maxRecDepth 100000 in
/-- joinedRight: one request more. -/
theorem joined_more (a1 a2 : Option Addr) (n c1 c2 : Nat) (P Q : Nat → Int) (t k : Int) (w : World) (hn : n ≤ 1048576) (hk : 1 ≤ k) (h1 : Prs .i64 w 0 a1 (n + 1) (upd P n t) (upd Q n k)) (h2 : Prs .i64 w 0 a2 n P Q) :
    Calls Trym.prog 14 #[.slice a1 (n + 1) c1, .slice a2 n c2, .int .i64 t, .int .i64 k] w fun e w' => e = .returned (.bool true) ∧ Below w.heap.size w w' := by
  obtain ⟨b1, o1, rfl, _, hb1, hc1⟩ := h1 (by omega)
  have H1 : Hid (∀ j, j < n → w.cell? ⟨b1, o1 + j * 2, none⟩ = some (.int .i64 (P j)) ∧ w.cell? ⟨b1, o1 + (j * 2 + 1), none⟩ = some (.int .i64 (Q j))) := by
    intro j hj
    have := hc1 j (by omega)
    simpa [upd, hj] using this
  have L1 : w.cell? ⟨b1, o1 + n * 2, none⟩ = some (.int .i64 t) := by have := (hc1 n (by omega)).1; simpa [upd] using this
  have L2 : w.cell? ⟨b1, o1 + (n * 2 + 1), none⟩ = some (.int .i64 k) := by have := (hc1 n (by omega)).2; simpa [upd] using this
  have H2 : Hid (Prs .i64 w 0 a2 n P Q) := h2
  have HL : Hid (w.cell? ⟨b1, o1 + n * 2, none⟩ = some (.int .i64 t) ∧ w.cell? ⟨b1, o1 + (n * 2 + 1), none⟩ = some (.int .i64 k)) := ⟨L1, L2⟩
  clear hc1 h1 h2 L1 L2
  have hne : (((n + 1 : Nat) : Int) != (n : Int) + 1) = false := by simp
  go_enter Trym.func14, Trym.ntmps14
  go_wp2
  clear hne
  go_loopg [10] n (fun g i wr => ∃ j : Nat, j ≤ n ∧ g = n - j ∧ i = .int .i64 j ∧ Below w.heap.size w wr)
  case atStart => exact ⟨0, Nat.zero_le _, rfl, rfl, Below.refl _ _⟩
  case round =>
    obtain ⟨j, hj, rfl, rfl, hbel⟩ := hrel
    by_cases hlt : j < n
    · obtain ⟨b2, o2, rfl, _, hb2, hc2⟩ := H2.out (by omega)
      have g1 : wr.cell? ⟨b1, o1 + j * 2, none⟩ = some (.int .i64 (P j)) := (hbel.cell (p := ⟨b1, o1 + j * 2, none⟩) hb1).trans (H1.out j hlt).1
      have g2 : wr.cell? ⟨b1, o1 + (j * 2 + 1), none⟩ = some (.int .i64 (Q j)) := (hbel.cell (p := ⟨b1, o1 + (j * 2 + 1), none⟩) hb1).trans (H1.out j hlt).2
      have g3 : wr.cell? ⟨b2, o2 + j * 2, none⟩ = some (.int .i64 (P j)) := (hbel.cell (p := ⟨b2, o2 + j * 2, none⟩) hb2).trans (hc2 j hlt).1
      have g4 : wr.cell? ⟨b2, o2 + (j * 2 + 1), none⟩ = some (.int .i64 (Q j)) := (hbel.cell (p := ⟨b2, o2 + (j * 2 + 1), none⟩) hb2).trans (hc2 j hlt).2
      have g2' : wr.cell? ⟨b1, o1 + j * 2 + 1, none⟩ = some (.int .i64 (Q j)) := g2
      have g4' : wr.cell? ⟨b2, o2 + j * 2 + 1, none⟩ = some (.int .i64 (Q j)) := g4
      have i1 : (j : Int) < (n : Int) := by omega
      have i2 : (j : Int) < ((n + 1 : Nat) : Int) := by omega
      clear hc2
      go_wp2
      go_quiet (fail)
      go_wp2
      go_roundg (n - (j + 1))
      case measure => omega
      case rel => exact ⟨j + 1, by omega, rfl, by go_num, below_drewN hbel _⟩
    · have L1 : wr.cell? ⟨b1, o1 + n * 2, none⟩ = some (.int .i64 t) := (hbel.cell (p := ⟨b1, o1 + n * 2, none⟩) hb1).trans HL.out.1
      have L2 : wr.cell? ⟨b1, o1 + (n * 2 + 1), none⟩ = some (.int .i64 k) := (hbel.cell (p := ⟨b1, o1 + (n * 2 + 1), none⟩) hb1).trans HL.out.2
      have L2' : wr.cell? ⟨b1, o1 + n * 2 + 1, none⟩ = some (.int .i64 k) := L2
      go_wp2
      go_ret
      exact ⟨by simp, hbel.alloc hbel.size _⟩

set_option maxHeartbeats 1000000 in
set_option maxRecDepth 100000 in
/-- joinedRight: no request more. -/
theorem joined_same (a1 a2 : Option Addr) (n c1 c2 : Nat) (P Q : Nat → Int) (t : Int) (w : World) (hn : n ≤ 1048576) (h1 : Prs .i64 w 0 a1 n P Q) (h2 : Prs .i64 w 0 a2 n P Q) :
    Calls Trym.prog 14 #[.slice a1 n c1, .slice a2 n c2, .int .i64 t, .int .i64 0] w fun e w' => e = .returned (.bool true) ∧ Below w.heap.size w w' := by
  have H1 : Hid (Prs .i64 w 0 a1 n P Q) := h1
  have H2 : Hid (Prs .i64 w 0 a2 n P Q) := h2
  clear h1 h2
  have hne : ((n : Int) != (n : Int)) = false := by simp
  go_enter Trym.func14, Trym.ntmps14
  go_wp2
  clear hne
  go_loopg [10] n (fun g i wr => ∃ j : Nat, j ≤ n ∧ g = n - j ∧ i = .int .i64 j ∧ Below w.heap.size w wr)
  case atStart => exact ⟨0, Nat.zero_le _, rfl, rfl, Below.refl _ _⟩
  case round =>
    obtain ⟨j, hj, rfl, rfl, hbel⟩ := hrel
    by_cases hlt : j < n
    · obtain ⟨b1, o1, rfl, _, hb1, hc1⟩ := H1.out (by omega)
      obtain ⟨b2, o2, rfl, _, hb2, hc2⟩ := H2.out (by omega)
      have g1 : wr.cell? ⟨b1, o1 + j * 2, none⟩ = some (.int .i64 (P j)) := (hbel.cell (p := ⟨b1, o1 + j * 2, none⟩) hb1).trans (hc1 j hlt).1
      have g2 : wr.cell? ⟨b1, o1 + (j * 2 + 1), none⟩ = some (.int .i64 (Q j)) := (hbel.cell (p := ⟨b1, o1 + (j * 2 + 1), none⟩) hb1).trans (hc1 j hlt).2
      have g3 : wr.cell? ⟨b2, o2 + j * 2, none⟩ = some (.int .i64 (P j)) := (hbel.cell (p := ⟨b2, o2 + j * 2, none⟩) hb2).trans (hc2 j hlt).1
      have g4 : wr.cell? ⟨b2, o2 + (j * 2 + 1), none⟩ = some (.int .i64 (Q j)) := (hbel.cell (p := ⟨b2, o2 + (j * 2 + 1), none⟩) hb2).trans (hc2 j hlt).2
      have g2' : wr.cell? ⟨b1, o1 + j * 2 + 1, none⟩ = some (.int .i64 (Q j)) := g2
      have g4' : wr.cell? ⟨b2, o2 + j * 2 + 1, none⟩ = some (.int .i64 (Q j)) := g4
      have i1 : (j : Int) < (n : Int) := by omega
      clear hc1 hc2
      go_wp2
      go_quiet (fail)
      go_wp2
      go_roundg (n - (j + 1))
      case measure => omega
      case rel => exact ⟨j + 1, by omega, rfl, by go_num, below_drewN hbel _⟩
    · go_wp2
      go_ret
      exact ⟨rfl, hbel⟩

end Go.Proofs.Qxb6601136aMods.Ask
