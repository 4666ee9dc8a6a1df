/- The contracts of ZZPlace, fitsMaximal, cohortAppended, poolSame. -/
import Derived.Test.Qxb6601136aModsPlace
import Derived.Test.Qxb6601136aModsAskSmall
namespace Go.Proofs.Qxb6601136aMods.Place
open Go.ChangeShapes Go.WideShapes Go.ChangeAt Go.RowKit
open Go.Proofs.Qxb6601136aMods.Mem Go.Proofs.Qxb6601136aMods.Pool Go.Proofs.Qxb6601136aMods.Grow Go.Proofs.Qxb6601136aMods.Pods Go.Proofs.Qxb6601136aMods.Conv Go.Proofs.Qxb6601136aMods.PodsBoth
set_option linter.unusedSimpArgs false
set_option linter.unusedVariables false

set_option maxHeartbeats 1000000 in
set_option maxRecDepth 100000 in
/-- cohortAppended: one cohort more. -/
theorem coh_more (a1 a2 : Option Addr) (n c1 c2 : Nat) (P Q : Nat → Int) (t k : Int) (w : World) (hn : n ≤ 1048576) (hk : 1 ≤ k) (hk2 : k ≤ 2147483647) (h1 : Prs .i32 w 0 a1 (n + 1) (upd P n t) (upd Q n k)) (h2 : Prs .i32 w 0 a2 n P Q) :
    Calls Trym.prog 24 #[.slice a1 (n + 1) c1, .slice a2 n c2, .int .i64 t, .int .i64 k] w fun e w' => e = .returned (.bool true) ∧ Below w.heap.size w w' := by
  obtain ⟨b1, o1, rfl, _, hb1, hc1⟩ := h1 (by omega)
  have H1 : Hid (∀ j, j < n → w.cell? ⟨b1, o1 + j * 2, none⟩ = some (.int .i64 (P j)) ∧ w.cell? ⟨b1, o1 + (j * 2 + 1), none⟩ = some (.int .i32 (Q j))) := by
    intro j hj
    have := hc1 j (by omega)
    simpa [upd, hj] using this
  have L1 : w.cell? ⟨b1, o1 + n * 2, none⟩ = some (.int .i64 t) := by have := (hc1 n (by omega)).1; simpa [upd] using this
  have L2 : w.cell? ⟨b1, o1 + (n * 2 + 1), none⟩ = some (.int .i32 k) := by have := (hc1 n (by omega)).2; simpa [upd] using this
  have H2 : Hid (Prs .i32 w 0 a2 n P Q) := h2
  have HL : Hid (w.cell? ⟨b1, o1 + n * 2, none⟩ = some (.int .i64 t) ∧ w.cell? ⟨b1, o1 + (n * 2 + 1), none⟩ = some (.int .i32 k)) := ⟨L1, L2⟩
  clear hc1 h1 h2 L1 L2
  have hne : (((n + 1 : Nat) : Int) != (n : Int) + 1) = false := by simp
  go_enter Trym.func24, Trym.ntmps24
  go_wp2
  clear hne
  go_loopg [10] n (fun g i wr => ∃ j : Nat, j ≤ n ∧ g = n - j ∧ i = .int .i64 j ∧ Below w.heap.size w wr)
  case atStart => exact ⟨0, Nat.zero_le _, rfl, rfl, Below.refl _ _⟩
  case round =>
    obtain ⟨j, hj, rfl, rfl, hbel⟩ := hrel
    by_cases hlt : j < n
    · obtain ⟨b2, o2, rfl, _, hb2, hc2⟩ := H2.out (by omega)
      have g1 : wr.cell? ⟨b1, o1 + j * 2, none⟩ = some (.int .i64 (P j)) := (hbel.cell (p := ⟨b1, o1 + j * 2, none⟩) hb1).trans (H1.out j hlt).1
      have g2 : wr.cell? ⟨b1, o1 + (j * 2 + 1), none⟩ = some (.int .i32 (Q j)) := (hbel.cell (p := ⟨b1, o1 + (j * 2 + 1), none⟩) hb1).trans (H1.out j hlt).2
      have g3 : wr.cell? ⟨b2, o2 + j * 2, none⟩ = some (.int .i64 (P j)) := (hbel.cell (p := ⟨b2, o2 + j * 2, none⟩) hb2).trans (hc2 j hlt).1
      have g4 : wr.cell? ⟨b2, o2 + (j * 2 + 1), none⟩ = some (.int .i32 (Q j)) := (hbel.cell (p := ⟨b2, o2 + (j * 2 + 1), none⟩) hb2).trans (hc2 j hlt).2
      have g2' : wr.cell? ⟨b1, o1 + j * 2 + 1, none⟩ = some (.int .i32 (Q j)) := g2
      have g4' : wr.cell? ⟨b2, o2 + j * 2 + 1, none⟩ = some (.int .i32 (Q j)) := g4
      have i1 : (j : Int) < (n : Int) := by omega
      have i2 : (j : Int) < ((n + 1 : Nat) : Int) := by omega
      clear hc2
      go_wp2
      go_quiet (fail)
      go_wp2
      go_roundg (n - (j + 1))
      case measure => omega
      case rel => exact ⟨j + 1, by omega, rfl, by go_num, below_drewN hbel _⟩
    · have L1 : wr.cell? ⟨b1, o1 + n * 2, none⟩ = some (.int .i64 t) := (hbel.cell (p := ⟨b1, o1 + n * 2, none⟩) hb1).trans HL.out.1
      have L2 : wr.cell? ⟨b1, o1 + (n * 2 + 1), none⟩ = some (.int .i32 k) := (hbel.cell (p := ⟨b1, o1 + (n * 2 + 1), none⟩) hb1).trans HL.out.2
      have L2' : wr.cell? ⟨b1, o1 + n * 2 + 1, none⟩ = some (.int .i32 k) := L2
      go_wp2
      go_ret
      exact ⟨by simp, hbel.alloc hbel.size _⟩

set_option maxHeartbeats 1000000 in
set_option maxRecDepth 100000 in
/-- cohortAppended: no cohort more. -/
theorem coh_same (a1 a2 : Option Addr) (n c1 c2 : Nat) (P Q : Nat → Int) (t : Int) (w : World) (hn : n ≤ 1048576) (h1 : Prs .i32 w 0 a1 n P Q) (h2 : Prs .i32 w 0 a2 n P Q) :
    Calls Trym.prog 24 #[.slice a1 n c1, .slice a2 n c2, .int .i64 t, .int .i64 0] w fun e w' => e = .returned (.bool true) ∧ Below w.heap.size w w' := by
  have H1 : Hid (Prs .i32 w 0 a1 n P Q) := h1
  have H2 : Hid (Prs .i32 w 0 a2 n P Q) := h2
  clear h1 h2
  have hne : ((n : Int) != (n : Int)) = false := by simp
  go_enter Trym.func24, Trym.ntmps24
  go_wp2
  clear hne
  go_loopg [10] n (fun g i wr => ∃ j : Nat, j ≤ n ∧ g = n - j ∧ i = .int .i64 j ∧ Below w.heap.size w wr)
  case atStart => exact ⟨0, Nat.zero_le _, rfl, rfl, Below.refl _ _⟩
  case round =>
    obtain ⟨j, hj, rfl, rfl, hbel⟩ := hrel
    by_cases hlt : j < n
    · obtain ⟨b1, o1, rfl, _, hb1, hc1⟩ := H1.out (by omega)
      obtain ⟨b2, o2, rfl, _, hb2, hc2⟩ := H2.out (by omega)
      have g1 : wr.cell? ⟨b1, o1 + j * 2, none⟩ = some (.int .i64 (P j)) := (hbel.cell (p := ⟨b1, o1 + j * 2, none⟩) hb1).trans (hc1 j hlt).1
      have g2 : wr.cell? ⟨b1, o1 + (j * 2 + 1), none⟩ = some (.int .i32 (Q j)) := (hbel.cell (p := ⟨b1, o1 + (j * 2 + 1), none⟩) hb1).trans (hc1 j hlt).2
      have g3 : wr.cell? ⟨b2, o2 + j * 2, none⟩ = some (.int .i64 (P j)) := (hbel.cell (p := ⟨b2, o2 + j * 2, none⟩) hb2).trans (hc2 j hlt).1
      have g4 : wr.cell? ⟨b2, o2 + (j * 2 + 1), none⟩ = some (.int .i32 (Q j)) := (hbel.cell (p := ⟨b2, o2 + (j * 2 + 1), none⟩) hb2).trans (hc2 j hlt).2
      have g2' : wr.cell? ⟨b1, o1 + j * 2 + 1, none⟩ = some (.int .i32 (Q j)) := g2
      have g4' : wr.cell? ⟨b2, o2 + j * 2 + 1, none⟩ = some (.int .i32 (Q j)) := g4
      have i1 : (j : Int) < (n : Int) := by omega
      clear hc1 hc2
      go_wp2
      go_quiet (fail)
      go_wp2
      go_roundg (n - (j + 1))
      case measure => omega
      case rel => exact ⟨j + 1, by omega, rfl, by go_num, below_drewN hbel _⟩
    · go_wp2
      go_ret
      exact ⟨rfl, hbel⟩

/-- cohortAppended, whatever has been started. -/
theorem coh_any (a1 a2 : Option Addr) (n c1 c2 : Nat) (P Q : Nat → Int) (t m : Int) (w : World) (hn : n ≤ 1048576) (hm : 0 ≤ m) (hm2 : m ≤ 2147483647) (h1 : Prs .i32 w 0 a1 (cnt n m) (upd P n t) (upd Q n m)) (h2 : Prs .i32 w 0 a2 n P Q) :
    Calls Trym.prog 24 #[.slice a1 (cnt n m) c1, .slice a2 n c2, .int .i64 t, .int .i64 m] w fun e w' => e = .returned (.bool true) ∧ Below w.heap.size w w' := by
  by_cases hz : m = 0
  · subst hz
    rw [show cnt n 0 = n from by simp [cnt]] at h1 ⊢
    exact coh_same a1 a2 n c1 c2 P Q t w hn (prs_congr h1 (fun j hj => by simp [upd, hj])) h2
  · rw [show cnt n m = n + 1 from by simp [cnt, hz]] at h1 ⊢
    exact coh_more a1 a2 n c1 c2 P Q t m w hn (by omega) hm2 h1 h2

/-- fitsMaximal says yes to fit. -/
theorem fits_any (hv : Bool) (rm r s p : Int) (rv : Int) (w : World) (hr0 : 0 ≤ r) (hs0 : 0 ≤ s) (hp0 : 0 ≤ p) (hsum : r + s + p ≤ 2147483647) (hrs : hv = true → r + s ≤ rm ∧ rv = rm ∧ rm ≤ 9223372032559808512) :
    Calls Trym.prog 23 #[.int .i64 (r + s), .int .i64 p, .int .i64 (fit hv rm r s p), .bool hv, .int .i64 rv] w fun e w' => e = .returned (.bool true) ∧ w = w' := by
  obtain ⟨f0, f1⟩ := fit_bd (hv := hv) (rm := rm) (r := r) (s := s) hp0 (fun h => (hrs h).1)
  have d0 : decide (fit hv rm r s p < 0) = false := by simp; omega
  cases hv with
  | false =>
    have hf : fit false rm r s p = p := by simp [fit]
    rw [hf] at d0 ⊢
    clear hf f0 f1
    go_enter Trym.func23, Trym.ntmps23
    go_wp2
    go_ret
    exact ⟨by simp, rfl⟩
  | true =>
    obtain ⟨h1, rfl, h3⟩ := hrs rfl
    by_cases hc : rv - r - s < p
    · have hf : fit true rv r s p = rv - r - s := by simp [fit, hc]
      rw [hf] at d0 f0 f1 ⊢
      clear hf
      have e1 : (rv - r - s == p) = false := by simp; omega
      have e2 : (r + s + (rv - r - s) == rv) = true := by simp; omega
      go_enter Trym.func23, Trym.ntmps23
      go_wp2
      go_ret
      exact ⟨by first | (simp; done) | (simp; omega), rfl⟩
    · have hf : fit true rv r s p = p := by simp [fit, hc]
      rw [hf] at d0 f0 f1 ⊢
      clear hf
      have e1 : (p == p) = true := by simp
      go_enter Trym.func23, Trym.ntmps23
      go_wp2
      go_ret
      exact ⟨by simp, rfl⟩

set_option maxHeartbeats 1000000 in
set_option maxRecDepth 100000 in
/-- joinedRight, no request more: it only reads. -/
theorem joined_q (a1 a2 : Option Addr) (n c1 c2 : Nat) (P Q : Nat → Int) (t : Int) (w : World) (hn : n ≤ 1048576) (h1 : Prs .i64 w 0 a1 n P Q) (h2 : Prs .i64 w 0 a2 n P Q) :
    Calls Trym.prog 14 #[.slice a1 n c1, .slice a2 n c2, .int .i64 t, .int .i64 0] w fun e w' => e = .returned (.bool true) ∧ ∃ q, w' = w.drewN q := by
  have H1 : Hid (Prs .i64 w 0 a1 n P Q) := h1
  have H2 : Hid (Prs .i64 w 0 a2 n P Q) := h2
  clear h1 h2
  have hne : ((n : Int) != (n : Int)) = false := by simp
  go_enter Trym.func14, Trym.ntmps14
  go_wp2
  clear hne
  go_loopg [10] n (fun g i wr => ∃ j q : Nat, j ≤ n ∧ g = n - j ∧ i = .int .i64 j ∧ wr = w.drewN q)
  case atStart => exact ⟨0, 0, Nat.zero_le _, rfl, rfl, rfl⟩
  case round =>
    obtain ⟨j, q, hj, rfl, rfl, rfl⟩ := hrel
    by_cases hlt : j < n
    · obtain ⟨b1, o1, rfl, _, hb1, hc1⟩ := H1.out (by omega)
      obtain ⟨b2, o2, rfl, _, hb2, hc2⟩ := H2.out (by omega)
      obtain ⟨g1, g2⟩ := hc1 j hlt
      obtain ⟨g3, g4⟩ := hc2 j hlt
      have g2' : w.cell? ⟨b1, o1 + j * 2 + 1, none⟩ = some (.int .i64 (Q j)) := g2
      have g4' : w.cell? ⟨b2, o2 + j * 2 + 1, none⟩ = some (.int .i64 (Q j)) := g4
      have i1 : (j : Int) < (n : Int) := by omega
      clear hc1 hc2
      go_wp2
      go_quiet (fail)
      go_wp2
      go_roundg (n - (j + 1))
      case measure => omega
      case rel => exact ⟨j + 1, _, by omega, rfl, by go_num, rfl⟩
    · go_wp2
      go_ret
      exact ⟨rfl, q, rfl⟩

set_option maxHeartbeats 2000000 in
set_option maxRecDepth 100000 in
/-- poolSame: two optional pools that read alike. -/
theorem same_any (p1 p2 : Option Addr) (hv : Bool) (n : Nat) (pn dl rd jn : Int) (P Q : Nat → Int) (w : World) (hlen : n ≤ 1048576) (h1 : NodesR w p1 hv pn dl rd jn n P Q) (h2 : NodesR w p2 hv pn dl rd jn n P Q) :
    Calls Trym.prog 25 #[.pointer p1, .pointer p2] w fun e w' => e = .returned (.bool true) ∧ Below w.heap.size w w' := by
  cases hv with
  | false =>
    obtain rfl := h1.1 rfl
    obtain rfl := h2.1 rfl
    go_enter Trym.func25, Trym.ntmps25
    go_wp2
    go_ret
    exact ⟨rfl, Below.refl _ _⟩
  | true =>
    obtain ⟨B1, a1, c1, rfl, hp1, hn1, hr1⟩ := h1.2 rfl
    obtain ⟨B2, a2, c2, rfl, hp2, hn2, hr2⟩ := h2.2 rfl
    have H1 : Hid (Prs .i64 w 0 a1 n P Q) := hr1
    have H2 : Hid (Prs .i64 w 0 a2 n P Q) := hr2
    obtain ⟨x0, x1, x2, x3, x4, x5⟩ := hp1
    obtain ⟨y0, y1, y2, y3, y4, y5⟩ := hp2
    simp only [Nat.zero_add] at x2 x3 x4 x5 y2 y3 y4 y5
    clear h1 h2 hn1 hn2 hr1 hr2
    go_enter Trym.func25, Trym.ntmps25
    go_wp2
    go_quiet (fail)
    generalize hw1 : World.drewN w _ = w1
    have u1 : w1.cell? ⟨B1, 3, none⟩ = some (.slice a1 n c1) := by rw [← hw1]; exact x4
    have u2 : w1.cell? ⟨B2, 3, none⟩ = some (.slice a2 n c2) := by rw [← hw1]; exact y4
    have H1' : Hid (Prs .i64 w1 0 a1 n P Q) := by rw [← hw1]; exact H1.out
    have H2' : Hid (Prs .i64 w1 0 a2 n P Q) := by rw [← hw1]; exact H2.out
    have hbw : Below w.heap.size w w1 := by rw [← hw1]; exact below_drewN (Below.refl _ _) _
    clear hw1 H1 H2 x1 x2 x3 x4 x5 y1 y2 y3 y4 y5
    go_wp2
    go_quiet ((go_at_call 14; exact Calls.quiet_of (joined_q _ _ _ _ _ P Q _ _ hlen (H1'.out.drewN _) (H2'.out.drewN _))))
    go_wp2
    go_ret
    exact ⟨rfl, below_drewN hbw _⟩

set_option maxHeartbeats 1000000 in
set_option maxRecDepth 100000 in
/-- ZZPlace. -/
theorem zzplace_any (r s p t : Int) (a : Option Addr) (n c : Nat) (P Q : Nat → Int) (np : Option Addr) (hv : Bool) (pn dl rd jn rm : Int) (nj : Nat) (PJ QJ : Nat → Int) (w : World) (hn : n ≤ 65536) (hlenj : nj ≤ 1048576)
    (hr0 : 0 ≤ r) (hs0 : 0 ≤ s) (hp0 : 0 ≤ p) (hsum : r + s + p ≤ 2147483647) (hrm : hv = true → rd * pn = rm ∧ 0 ≤ rm ∧ rm ≤ 9223372032559808512 ∧ r + s ≤ rm)
    (hnil : a = none → n = 0 ∧ c = 0) (hP : Prs .i32 w 0 a n P Q) (hN : NodesR w np hv pn dl rd jn nj PJ QJ) :
    Calls Trym.prog 21 #[.agg #[.int .i32 r, .int .i32 s, .int .i32 p, .slice a n c, .pointer np], .int .i64 t] w fun e w' => ∃ a' np',
      e = .returned (.agg #[.int .i32 r, .int .i32 (s + fit hv rm r s p), .int .i32 (p - fit hv rm r s p), .slice a' (cnt n (fit hv rm r s p)) (cnt n (fit hv rm r s p)), .pointer np']) ∧
      Prs .i32 w' 0 a' (cnt n (fit hv rm r s p)) (upd P n t) (upd Q n (fit hv rm r s p)) ∧ NodesR w' np' hv pn dl rd jn nj PJ QJ ∧ Below w.heap.size w w' := by
  have HP : Hid (Prs .i32 w 0 a n P Q) := hP
  have HN : Hid (NodesR w np hv pn dl rd jn nj PJ QJ) := hN
  have Hnil : Hid (a = none → n = 0 ∧ c = 0) := hnil
  have Hrm : Hid (hv = true → rd * pn = rm ∧ 0 ≤ rm ∧ rm ≤ 9223372032559808512 ∧ r + s ≤ rm) := hrm
  have hcn : cnt n (fit hv rm r s p) ≤ 1048576 := by unfold cnt; split <;> omega
  generalize hfm : fit hv rm r s p = m at *
  have HM : Hid (fit hv rm r s p = m) := hfm
  generalize hcm : cnt n m = n2 at *
  have HC : Hid (cnt n m = n2) := hcm
  clear hP hN hnil hrm hfm hcm
  go_enter Trym.func21, Trym.ntmps21
  go_wp2_with fail
  refine (PodsBoth.pin_any r s p a n c P Q np hv pn dl rd jn nj PJ QJ _ (by omega) hlenj Hnil.out ((HP.out.alloc _).alloc _) ((HN.out.below ((Below.refl _ _).alloc (Nat.le_refl _) _)).below ((Below.refl _ _).alloc (Nat.le_refl _) _))).mono ?_
  rintro e w1 ⟨Bp, np1, rfl, hS1, hb1⟩
  have HR1 : Hid (PodsBlk w1 (w.heap.size + 1) 46 0 0 0 none 0 0 none) := by
    have := (PodsBlk.new (w.alloc (.cells #[.int .i32 r, .int .i32 s, .int .i32 p, .slice a n c, .pointer np] 46)) 46 0 0 0 none 0 0 none).below hb1
    rw [World.size_alloc] at this
    exact this
  have HS1 : Hid (PodsSt w1 (w.heap.size + 2) Bp r s p n P Q np1 hv pn dl rd jn nj PJ QJ) := by
    simp only [World.size_alloc] at hS1
    exact hS1
  have hbel1 : Below w.heap.size w w1 := (by go_grown : Below w.heap.size w _).trans (hb1.mono (by simp; omega))
  clear hS1 hb1 HP HN
  have hlo1 : w.heap.size + 2 ≤ w1.heap.size := HR1.out.lt
  go_wp2_with fail
  refine (place_any Bp (w.heap.size + 2) r s p t n P Q np1 pn dl rd jn nj PJ QJ _ hn hlo1 hr0 hs0 hp0 hsum hv rm Hrm.out HS1.out).mono ?_
  rintro e w2 ⟨rfl, hS2, hb2⟩
  rw [HM.out, HC.out] at hS2
  have HS2 : Hid (PodsR w2 Bp r (s + m) (p - m) n2 (upd P n t) (upd Q n m) np1 hv pn dl rd jn nj PJ QJ) := hS2.toR
  have HR2 : Hid (PodsBlk w2 (w.heap.size + 1) 46 0 0 0 none 0 0 none) := HR1.out.block (hb2.block _ (by omega))
  have hbel2 : Below w.heap.size w w2 := hbel1.trans (hb2.mono (by omega))
  clear hS2 hb2 HR1 HS1 hbel1
  go_wp2_with fail
  refine (PodsBoth.pout_any Bp r (s + m) (p - m) n2 (upd P n t) (upd Q n m) np1 hv pn dl rd jn nj PJ QJ _ hcn hlenj HS2.out).mono ?_
  rintro e w3 ⟨a3, np3, rfl, hn3, hP3, hN3, hb3⟩
  have hR3 := HR2.out.below hb3
  have hlt2 := HR2.out.lt
  have HP3 : Hid (Prs .i32 w3 (w.heap.size + 1 + 1) a3 n2 (upd P n t) (upd Q n m)) := hP3.mono hlt2
  have HN3 : Hid (Nodes w3 (w.heap.size + 1 + 1) 27 np3 hv pn dl rd jn nj PJ QJ) := hN3.mono hlt2
  have hbel3 : Below w.heap.size w w3 := hbel2.trans (hb3.mono hbel2.size)
  obtain ⟨c0, c1, c2, c3, c4⟩ := hR3.cells
  have fr := hR3.frozen
  have HR3 : Hid (PodsBlk w3 (w.heap.size + 1) 46 0 0 0 none 0 0 none) := hR3
  clear hR3 hP3 hN3 hb3 HR2 HS2 hbel2 hn3
  go_wp2
  obtain ⟨W5, hW5, hB5, hs5, hk5, hb5⟩ := stored5 r (s + m) (p - m) a3 n2 n2 np3 HR3.out
  rw [← hW5]
  obtain ⟨q0, q1, q2, q3, q4⟩ := hB5.cells
  have hsz := HR3.out.lt
  refine bodyPost_ret (v := .agg #[.int .i32 r, .int .i32 (s + m), .int .i32 (p - m), .slice a3 n2 n2, .pointer np3]) (by simp [results, Trym.results21, go_sem, q0, q1, q2, q3, q4]) rfl ?_
  exact ⟨a3, np3, rfl, (HP3.out.block (fun b hb _ => hk5 b (by omega)) (by omega)).mono (Nat.zero_le _), (nodes_kept HN3.out (fun b hb _ => hk5 b (by omega)) (by omega)).toR, hb5 w hbel3 (Nat.le_succ _)⟩

end Go.Proofs.Qxb6601136aMods.Place
