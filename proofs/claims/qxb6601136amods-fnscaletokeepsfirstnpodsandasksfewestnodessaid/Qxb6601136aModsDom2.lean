/- The contract of scaleDomain. -/
import Derived.Test.Qxb6601136aModsDom
import Derived.Test.Qxb6601136aModsShrPlain
namespace Go.Proofs.Qxb6601136aMods.Dom
open Go.ChangeShapes Go.WideShapes Go.ChangeAt Go.RowKit
open Go.Proofs.Qxb6601136aMods.Mem Go.Proofs.Qxb6601136aMods.Pool Go.Proofs.Qxb6601136aMods.Pods
open Go.Proofs.Qxb6601136aMods.Shr (sm)
set_option linter.unusedSimpArgs false
set_option linter.unusedVariables false

/-- What scaleDomain says. -/
def DomS (r s p x : Int) (n : Nat) (Q : Nat → Int) (hv : Bool) (pn rd jn : Int) (w : World) (e : Ending) (w' : World) : Prop :=
  ∃ d : Bool, e = .returned (.bool d) ∧ (d = true → 0 ≤ r ∧ 0 ≤ s ∧ 0 ≤ p ∧ 0 ≤ x ∧ r + s + p ≤ 2147483647 ∧
    (r + s + p < x → hv = true → 1 ≤ pn ∧ pn ≤ 2147483647 ∧ 0 ≤ rd ∧ rd ≤ 4294967296 ∧ 0 ≤ jn ∧ jn ≤ 4294967296 ∧ r + s ≤ rd * pn) ∧
    (x ≤ r + s + p → (∀ j, j < n → 0 < Q j) ∧ sm Q n = s)) ∧ Below w.heap.size w w'
section
variable {r s p x : Int} {n : Nat} {Q : Nat → Int} {hv : Bool} {pn rd jn : Int} {w : World} {e : Ending} {w' : World}
theorem doms_no (he : e = .returned (.bool false)) (hb : Below w.heap.size w w') : DomS r s p x n Q hv pn rd jn w e w' := ⟨false, he, fun h => (by cases h), hb⟩
theorem doms_grow (he : e = .returned (.bool true)) (h : 0 ≤ r ∧ 0 ≤ s ∧ 0 ≤ p ∧ 0 ≤ x ∧ r + s + p ≤ 2147483647) (hx : r + s + p < x) (hg : hv = true → 1 ≤ pn ∧ pn ≤ 2147483647 ∧ 0 ≤ rd ∧ rd ≤ 4294967296 ∧ 0 ≤ jn ∧ jn ≤ 4294967296 ∧ r + s ≤ rd * pn) (hb : Below w.heap.size w w') : DomS r s p x n Q hv pn rd jn w e w' :=
  ⟨true, he, fun _ => ⟨h.1, h.2.1, h.2.2.1, h.2.2.2.1, h.2.2.2.2, fun _ => hg, fun h => by omega⟩, hb⟩
theorem doms_shr {b : Bool} (he : e = .returned (.bool b)) (h : 0 ≤ r ∧ 0 ≤ s ∧ 0 ≤ p ∧ 0 ≤ x ∧ r + s + p ≤ 2147483647) (hx : x ≤ r + s + p) (hg : b = true → (∀ j, j < n → 0 < Q j) ∧ sm Q n = s) (hb : Below w.heap.size w w') : DomS r s p x n Q hv pn rd jn w e w' :=
  ⟨b, he, fun hb => ⟨h.1, h.2.1, h.2.2.1, h.2.2.2.1, h.2.2.2.2, fun h => by omega, fun _ => hg hb⟩, hb⟩
end

theorem sm_bd {Q : Nat → Int} {n : Nat} : ∀ k, k ≤ n → (∀ j, j < n → 0 ≤ Q j ∧ Q j ≤ 2147483647) → 0 ≤ sm Q k ∧ sm Q k ≤ k * 2147483647 := by
  intro k
  induction k with
  | zero => intro _ _; exact ⟨Int.le_refl _, by simp [sm]⟩
  | succ k ih =>
    intro hk h
    obtain ⟨h1, h2⟩ := ih (by omega) h
    obtain ⟨h3, h4⟩ := h k (by omega)
    show 0 ≤ sm Q k + Q k ∧ sm Q k + Q k ≤ ((k + 1 : Nat) : Int) * 2147483647
    have : ((k + 1 : Nat) : Int) * 2147483647 = k * 2147483647 + 2147483647 := by push_cast; omega
    omega

set_option maxHeartbeats 2000000 in
set_option maxRecDepth 100000 in
/-- scaleDomain where the target is not above: the cohorts are looked through. -/
theorem doms_loop (r s p x : Int) (a : Option Addr) (n c : Nat) (P Q : Nat → Int) (np : Option Addr) (hv : Bool) (pn rd jn : Int) (w : World) (hn : n ≤ 65536) (hq : ∀ j, j < n → -2147483648 ≤ Q j ∧ Q j ≤ 2147483647) (hP : Prs .i32 w 0 a n P Q)
    (hr0 : 0 ≤ r) (hs0 : 0 ≤ s) (hp0 : 0 ≤ p) (hx0 : 0 ≤ x) (hsum : r + s + p ≤ 2147483647) (hxe : x ≤ r + s + p) :
    Calls Trym.prog 29 #[.int .i32 r, .int .i32 s, .int .i32 p, .slice a n c, .pointer np, .int .i32 x] w (DomS r s p x n Q hv pn rd jn w) := by
  have HP : Hid (Prs .i32 w 0 a n P Q) := hP
  have HQ : Hid (∀ j, j < n → -2147483648 ≤ Q j ∧ Q j ≤ 2147483647) := hq
  have HPos : Hid (0 ≤ r ∧ 0 ≤ s ∧ 0 ≤ p ∧ 0 ≤ x ∧ r + s + p ≤ 2147483647) := ⟨hr0, hs0, hp0, hx0, hsum⟩
  have d1 : decide (r < 0) = false := by simp; omega
  have d2 : decide (s < 0) = false := by simp; omega
  have d3 : decide (p < 0) = false := by simp; omega
  have d4 : decide (x < 0) = false := by simp; omega
  clear hP hq
  go_enter Trym.func29, Trym.ntmps29
  go_wp2
  clear d1 d2 d3 d4
  go_loopg [14, 15] n (fun g z i wr => ∃ j : Nat, j ≤ n ∧ g = n - j ∧ i = .int .i64 j ∧ z = .int .i64 (sm Q j) ∧ Hid (∀ i, i < j → 0 < Q i) ∧ wr = w)
  case atStart => exact ⟨0, Nat.zero_le _, rfl, rfl, rfl, fun i hi => absurd hi (Nat.not_lt_zero _), rfl⟩
  case round =>
    obtain ⟨j, hj, rfl, rfl, rfl, hpos, rfl⟩ := hrel
    obtain ⟨b0, b1⟩ : 0 ≤ sm Q j ∧ sm Q j ≤ j * 2147483647 := sm_bd (n := j) j (Nat.le_refl _) (fun i hi => ⟨by have := hpos.out i hi; omega, (HQ.out i (by omega)).2⟩)
    have b2 : sm Q j ≤ 140737488289792 := by have : (j : Int) * 2147483647 ≤ 65536 * 2147483647 := by omega
                                             omega
    by_cases hlt : j < n
    · obtain ⟨b, off, rfl, _, hbw, hc⟩ := HP.out (by omega)
      have g2 := (hc j hlt).2
      have g2' : wr.cell? ⟨b, off + j * 2 + 1, none⟩ = some (.int .i32 (Q j)) := g2
      have i1 : (j : Int) < (n : Int) := by omega
      obtain ⟨q0, q1⟩ := HQ.out j hlt
      obtain ⟨q, hqe⟩ : ∃ q, Q j = q := ⟨_, rfl⟩
      have HQE : Hid (Q j = q) := hqe
      rw [hqe] at g2 g2' q0 q1
      obtain ⟨z, hz⟩ : ∃ z, sm Q j = z := ⟨_, rfl⟩
      have HZ : Hid (sm Q j = z) := hz
      clear hc hqe b1
      by_cases hq0 : q ≤ 0
      · go_wp2
        go_ret
        exact doms_no rfl (Below.refl _ _)
      · go_wp2
        go_roundg (n - (j + 1))
        case measure => omega
        case rel =>
          refine ⟨j + 1, by omega, rfl, by go_num, ?_, fun i hi => ?_, rfl⟩
          · show _ = Value.int .i64 (sm Q j + Q j)
            rw [HQE.out, HZ.out]
          · by_cases e : i = j
            · subst e; rw [HQE.out]; omega
            · exact hpos.out i (by omega)
    · have hjn : j = n := by omega
      subst hjn
      obtain ⟨z, hz⟩ : ∃ z, sm Q j = z := ⟨_, rfl⟩
      have HZ : Hid (sm Q j = z) := hz
      rw [hz] at b0 b2 ⊢
      clear hz b1
      go_wp2
      go_ret
      exact doms_shr rfl HPos.out hxe (fun hb => ⟨hpos.out, by rw [HZ.out]; simpa using hb⟩) (Below.refl _ _)

set_option maxHeartbeats 2000000 in
set_option maxRecDepth 100000 in
/-- scaleDomain: it answers; what it says where it says yes. -/
theorem doms_any (r s p x : Int) (a : Option Addr) (n c : Nat) (P Q : Nat → Int) (np : Option Addr) (hv : Bool) (pn dl rd jn : Int) (nj : Nat) (PJ QJ : Nat → Int) (w : World) (hn : n ≤ 65536) (hq : ∀ j, j < n → -2147483648 ≤ Q j ∧ Q j ≤ 2147483647) (hP : Prs .i32 w 0 a n P Q)
    (hr : -2147483648 ≤ r ∧ r ≤ 2147483647) (hs : -2147483648 ≤ s ∧ s ≤ 2147483647) (hp : -2147483648 ≤ p ∧ p ≤ 2147483647) (hx : -2147483648 ≤ x ∧ x ≤ 2147483647) (h : NodesIn w np hv pn dl rd jn nj PJ QJ) :
    Calls Trym.prog 29 #[.int .i32 r, .int .i32 s, .int .i32 p, .slice a n c, .pointer np, .int .i32 x] w (DomS r s p x n Q hv pn rd jn w) := by
  by_cases c1 : r < 0
  · have d1 : decide (r < 0) = true := by simpa using c1
    go_enter Trym.func29, Trym.ntmps29
    go_wp2
    go_ret
    exact doms_no rfl (Below.refl _ _)
  have d1 : decide (r < 0) = false := by simpa using c1
  by_cases c2 : s < 0
  · have d2 : decide (s < 0) = true := by simpa using c2
    go_enter Trym.func29, Trym.ntmps29
    go_wp2
    go_ret
    exact doms_no rfl (Below.refl _ _)
  have d2 : decide (s < 0) = false := by simpa using c2
  by_cases c3 : p < 0
  · have d3 : decide (p < 0) = true := by simpa using c3
    go_enter Trym.func29, Trym.ntmps29
    go_wp2
    go_ret
    exact doms_no rfl (Below.refl _ _)
  have d3 : decide (p < 0) = false := by simpa using c3
  by_cases c4 : x < 0
  · have d4 : decide (x < 0) = true := by simpa using c4
    go_enter Trym.func29, Trym.ntmps29
    go_wp2
    go_ret
    exact doms_no rfl (Below.refl _ _)
  have d4 : decide (x < 0) = false := by simpa using c4
  by_cases c5 : 2147483647 < r + s + p
  · clear hP hq h
    go_enter Trym.func29, Trym.ntmps29
    go_wp2
    go_ret
    exact doms_no rfl (Below.refl _ _)
  by_cases c6 : x ≤ r + s + p
  · exact doms_loop r s p x a n c P Q np hv pn rd jn w hn hq hP (by omega) (by omega) (by omega) (by omega) (by omega) c6
  have HPos : Hid (0 ≤ r ∧ 0 ≤ s ∧ 0 ≤ p ∧ 0 ≤ x ∧ r + s + p ≤ 2147483647) := ⟨by omega, by omega, by omega, by omega, by omega⟩
  clear hP hq
  have hxg : r + s + p < x := by omega
  cases hv with
  | false =>
    obtain rfl := h.1 rfl
    clear h
    go_enter Trym.func29, Trym.ntmps29
    go_wp2
    go_ret
    exact doms_grow rfl HPos.out hxg (fun h => by cases h) (Below.refl _ _)
  | true =>
    obtain ⟨B, off, aj, cj, rfl, hp', _, _⟩ := h.2 rfl
    obtain ⟨x0, x1, x2, x3, x4, x5⟩ := hp'
    clear h x2 x4
    by_cases k1 : pn < 1
    · have e1 : decide (pn < 1) = true := by simpa using k1
      go_enter Trym.func29, Trym.ntmps29
      go_wp2
      go_ret
      exact doms_no rfl (Below.refl _ _)
    have e1 : decide (pn < 1) = false := by simpa using k1
    by_cases k2 : 2147483647 < pn
    · have e2 : decide (2147483647 < pn) = true := by simpa using k2
      go_enter Trym.func29, Trym.ntmps29
      go_wp2
      go_ret
      exact doms_no rfl (Below.refl _ _)
    have e2 : decide (2147483647 < pn) = false := by simpa using k2
    by_cases k3 : rd < 0
    · have e3 : decide (rd < 0) = true := by simpa using k3
      go_enter Trym.func29, Trym.ntmps29
      go_wp2
      go_ret
      exact doms_no rfl (Below.refl _ _)
    have e3 : decide (rd < 0) = false := by simpa using k3
    by_cases k4 : 4294967296 < rd
    · have e4 : decide (4294967296 < rd) = true := by simpa using k4
      go_enter Trym.func29, Trym.ntmps29
      go_wp2
      go_ret
      exact doms_no rfl (Below.refl _ _)
    have e4 : decide (4294967296 < rd) = false := by simpa using k4
    by_cases k5 : jn < 0
    · have e5 : decide (jn < 0) = true := by simpa using k5
      go_enter Trym.func29, Trym.ntmps29
      go_wp2
      go_ret
      exact doms_no rfl (Below.refl _ _)
    have e5 : decide (jn < 0) = false := by simpa using k5
    by_cases k6 : 4294967296 < jn
    · have e6 : decide (4294967296 < jn) = true := by simpa using k6
      go_enter Trym.func29, Trym.ntmps29
      go_wp2
      go_ret
      exact doms_no rfl (Below.refl _ _)
    have e6 : decide (4294967296 < jn) = false := by simpa using k6
    obtain ⟨hb0, hb1⟩ := Ask.base_bd (pn := pn) (jn := rd) (by omega) (by omega) (by omega) (by omega)
    obtain ⟨rm, hrm⟩ : ∃ rm, rd * pn = rm := ⟨_, rfl⟩
    have HRM : Hid (rd * pn = rm) := hrm
    rw [hrm] at hb0 hb1
    by_cases c9 : rm < r + s
    · skip
      go_enter Trym.func29, Trym.ntmps29
      go_wp2
      go_quiet (fail)
      go_wp2
      go_ret
      exact doms_no rfl (below_drewN (Below.refl _ _) _)
    · go_enter Trym.func29, Trym.ntmps29
      go_wp2
      go_quiet (fail)
      go_wp2
      go_ret
      exact doms_grow rfl HPos.out hxg (fun _ => ⟨by omega, by omega, by omega, by omega, by omega, by omega, by rw [HRM.out]; omega⟩) (below_drewN (Below.refl _ _) _)

end Go.Proofs.Qxb6601136aMods.Dom
