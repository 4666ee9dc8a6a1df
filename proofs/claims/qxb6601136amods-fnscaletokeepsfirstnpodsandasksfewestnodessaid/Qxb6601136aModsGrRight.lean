/- The contract of grownRight. -/
import Derived.Test.Qxb6601136aModsPlaceSmall
import Derived.Test.Qxb6601136aModsGr
namespace Go.Proofs.Qxb6601136aMods.Gr
open Go.ChangeShapes Go.WideShapes Go.ChangeAt Go.RowKit
open Go.Proofs.Qxb6601136aMods.Mem Go.Proofs.Qxb6601136aMods.Pool Go.Proofs.Qxb6601136aMods.Grow Go.Proofs.Qxb6601136aMods.Pods Go.Proofs.Qxb6601136aMods.PodsBoth Go.Proofs.Qxb6601136aMods.Place Go.Proofs.Qxb6601136aMods.Ask
set_option linter.unusedSimpArgs false
set_option linter.unusedVariables false

/-- joinedRight, whatever has been asked for. -/
theorem joined_any (a1 a2 : Option Addr) (n c1 c2 n2 : Nat) (P Q : Nat → Int) (t k : Int) (w : World) (hn : n ≤ 1048576) (hk : 0 ≤ k) (hn2 : cnt n k = n2) (h1 : Prs .i64 w 0 a1 n2 (upd P n t) (upd Q n k)) (h2 : Prs .i64 w 0 a2 n P Q) :
    Calls Trym.prog 14 #[.slice a1 n2 c1, .slice a2 n c2, .int .i64 t, .int .i64 k] w fun e w' => e = .returned (.bool true) ∧ Below w.heap.size w w' := by
  subst hn2
  by_cases hz : k = 0
  · subst hz
    rw [show cnt n 0 = n from by simp [cnt]] at h1 ⊢
    exact joined_same a1 a2 n c1 c2 P Q t w hn (prs_congr h1 (fun j hj => by simp [upd, hj])) h2
  · rw [show cnt n k = n + 1 from by simp [cnt, hz]] at h1 ⊢
    exact joined_more a1 a2 n c1 c2 P Q t k w hn (by omega) h1 h2

theorem askd_nonneg {hv : Bool} {pn base p : Int} (h : hv = true → 1 ≤ pn) : 0 ≤ askd hv pn base p := by
  cases hv with
  | false => simp [askd]
  | true =>
    rw [show askd true pn base p = need pn base p from by simp [askd]]
    by_cases c : p ≤ base
    · rw [need_zero c]; exact Int.le_refl _
    · have := (need_pos (pn := pn) (base := base) (p := p) (h rfl) (by omega)).2.1
      omega

theorem askd_le {hv : Bool} {pn base p : Int} (h : hv = true → 1 ≤ pn) (hb : hv = true → 0 ≤ base) (hp : 0 ≤ p) : askd hv pn base p ≤ p := by
  cases hv with
  | false => simpa [askd] using hp
  | true =>
    rw [show askd true pn base p = need pn base p from by simp [askd]]
    by_cases c : p ≤ base
    · rw [need_zero c]; exact hp
    · have := (need_pos (pn := pn) (base := base) (p := p) (h rfl) (by omega)).2.2.2.2
      have := hb rfl
      omega

set_option maxHeartbeats 2000000 in
set_option maxRecDepth 100000 in
theorem grown_false (n c nj n2 nj2 c5 B5 : Nat) (a a5 : Option Addr) (r s p t x m rm u : Int) (P Q : Nat → Int) (np5 : Option Addr) (w : World) (hn : n ≤ 65536) (hr0 : 0 ≤ r) (hs0 : 0 ≤ s) (hp0 : 0 ≤ p) (hsum : r + s + p ≤ 2147483647) (hx : r + s + p < x) (hx1 : x ≤ 2147483647)
    (hm : fit false rm r s (x - r - s) = m) (hu : u = x - r - s - m) (hn2 : cnt n m = n2)
    (hP : Prs .i32 w 0 a n P Q) (hP5 : Prs .i32 w 0 a5 n2 (upd P n t) (upd Q n m)) (hA : PodsBlk w B5 46 r (s + m) u a5 n2 c5 none) :
    Calls Trym.prog 31 #[.int .i32 r, .int .i32 s, .slice a n c, .pointer none, .int .i64 t, .int .i32 x, .int .i64 0, .pointer (some ⟨B5, 0, none⟩)] w fun e w' => e = .returned (.bool true) ∧ Below w.heap.size w w' := by
  obtain ⟨m0, m1⟩ : 0 ≤ m ∧ m ≤ x - r - s := by rw [← hm]; exact fit_bd (by omega) (fun h => by cases h)
  have HFit : Hid (∀ W : World, Calls Trym.prog 23 #[.int .i64 (r + s), .int .i64 (x - r - s), .int .i64 m, .bool false, .int .i64 0] W fun e w' => e = .returned (.bool true) ∧ W = w') := fun W => by
    have := fits_any false rm r s (x - r - s) 0 W hr0 hs0 (by omega) (by omega) (fun h => by cases h)
    rw [hm] at this
    exact this
  have HCo : Hid (Calls Trym.prog 24 #[.slice a5 n2 c5, .slice a n c, .int .i64 t, .int .i64 m] w fun e w' => e = .returned (.bool true) ∧ Below w.heap.size w w') := by
    subst hn2
    exact coh_any a5 a n c5 c P Q t m w (by omega) m0 (by omega) hP5 hP
  have hA' : Hid (PodsBlk w B5 46 r (s + m) u a5 n2 c5 none) := hA
  obtain ⟨y0, y1, y2, y3, y4⟩ := hA.cells
  have esm : s + m - s = m := by omega
  have e1 : (r != r) = false := by simp
  have e2 : (u != x - r - s - m) = false := by simp; omega
  have ub : 0 ≤ u ∧ u ≤ 2147483647 := by omega
  obtain ⟨ub0, ub1⟩ := ub
  clear hP hP5 hA hm hn2 hu y4
  go_enter Trym.func31, Trym.ntmps31
  go_wp2_with fail
  refine (HFit.out _).mono ?_
  rintro e w1 ⟨rfl, rfl⟩
  go_wp2_with fail
  refine HCo.out.mono ?_
  rintro e w2 ⟨rfl, hb2⟩
  obtain ⟨-, -, -, -, z4⟩ := (hA'.out.below hb2).cells
  clear y0 y1 y2 y3
  go_wp2
  go_ret
  exact ⟨rfl, hb2⟩

set_option maxHeartbeats 4000000 in
set_option maxRecDepth 100000 in
theorem grown_true (n c nj n2 nj2 c5 B5 : Nat) (a a5 : Option Addr) (r s p t x m k rm base u : Int) (P Q : Nat → Int) (np np5 : Option Addr) (hv : Bool) (hhv : hv = true) (pn dl rd jn : Int) (PJ QJ : Nat → Int) (w : World) (hn : n ≤ 65536) (hnj : nj ≤ 1048575) (hr0 : 0 ≤ r) (hs0 : 0 ≤ s) (hp0 : 0 ≤ p) (hsum : r + s + p ≤ 2147483647) (hx : r + s + p < x) (hx1 : x ≤ 2147483647)
    (hrm : rd * pn = rm) (hrm0 : 0 ≤ rm) (hrm1 : rm ≤ 9223372032559808512) (hrs : r + s ≤ rm) (hbs : jn * pn = base) (hpn : 1 ≤ pn) (hpn1 : pn ≤ 2147483647) (hjn : 0 ≤ jn) (hjn1 : jn ≤ 4294967296) (hm : fit true rm r s (x - r - s) = m) (hu : u = x - r - s - m) (hk : need pn base u = k) (hn2 : cnt n m = n2) (hnj2 : cnt nj k = nj2)
    (hP : Prs .i32 w 0 a n P Q) (hP5 : Prs .i32 w 0 a5 n2 (upd P n t) (upd Q n m)) (hA : PodsBlk w B5 46 r (s + m) u a5 n2 c5 np5) (hN : NodesR w np hv pn dl rd jn nj PJ QJ) (hN5 : NodesR w np5 hv pn dl rd (jn + k) nj2 (upd PJ nj t) (upd QJ nj k)) :
    Calls Trym.prog 31 #[.int .i32 r, .int .i32 s, .slice a n c, .pointer np, .int .i64 t, .int .i32 x, .int .i64 k, .pointer (some ⟨B5, 0, none⟩)] w fun e w' => e = .returned (.bool true) ∧ Below w.heap.size w w' := by
  obtain ⟨m0, m1⟩ : 0 ≤ m ∧ m ≤ x - r - s := by rw [← hm]; exact fit_bd (by omega) (fun h => hrs)
  obtain ⟨hb0, hb1⟩ := base_bd (pn := pn) (jn := jn) (by omega) hpn1 hjn hjn1
  rw [hbs] at hb0 hb1
  have HFit : Hid (∀ W : World, Calls Trym.prog 23 #[.int .i64 (r + s), .int .i64 (x - r - s), .int .i64 m, .bool true, .int .i64 rm] W fun e w' => e = .returned (.bool true) ∧ W = w') := fun W => by
    have := fits_any true rm r s (x - r - s) rm W hr0 hs0 (by omega) (by omega) (fun h => ⟨hrs, rfl, hrm1⟩)
    rw [hm] at this
    exact this
  have HCo : Hid (∀ W : World, Below w.heap.size w W → Calls Trym.prog 24 #[.slice a5 n2 c5, .slice a n c, .int .i64 t, .int .i64 m] W fun e w' => e = .returned (.bool true) ∧ Below W.heap.size W w') := fun W hW => by
    subst hn2
    exact coh_any a5 a n c5 c P Q t m W (by omega) m0 (by omega) (hP5.below hW) (hP.below hW)
  have k0 : 0 ≤ k ∧ k ≤ u := by
    have g1 := askd_nonneg (hv := true) (pn := pn) (base := base) (p := u) (fun _ => hpn)
    have g2 := askd_le (hv := true) (pn := pn) (base := base) (p := u) (fun _ => hpn) (fun _ => hb0) (by omega)
    rw [show askd true pn base u = need pn base u from by simp [askd], hk] at g1 g2
    exact ⟨g1, g2⟩
  obtain ⟨k0, k1⟩ := k0
  have HCv : Hid (∀ W : World, Calls Trym.prog 13 #[.int .i64 pn, .int .i64 jn, .int .i64 u, .int .i64 k] W fun e w' => e = .returned (.bool true) ∧ w' = W) := fun W => by
    have := cover_any pn jn u base W hpn hpn1 hbs hb0 hb1 (by omega) (by omega)
    rw [hk] at this
    refine this.mono ?_
    rintro e w' ⟨rfl, rfl⟩
    exact ⟨rfl, rfl⟩
  obtain ⟨B, aj, cj, rfl, hB, -, hJ⟩ := hN.2 hhv
  obtain ⟨B', aj', cj', rfl, hB', -, hJ'⟩ := hN5.2 hhv
  have HB : Hid (PoolAt w B 0 pn dl rd aj nj cj jn) := hB
  have HB' : Hid (PoolAt w B' 0 pn dl rd aj' nj2 cj' (jn + k)) := hB'
  have HJo : Hid (∀ W : World, Below w.heap.size w W → Calls Trym.prog 14 #[.slice aj' nj2 cj', .slice aj nj cj, .int .i64 t, .int .i64 k] W fun e w' => e = .returned (.bool true) ∧ Below W.heap.size W w') := fun W hW =>
    joined_any aj' aj nj cj' cj nj2 PJ QJ t k W (by omega) k0 hnj2 (hJ'.below hW) (hJ.below hW)
  have HRm : Hid (rd * pn = rm) := hrm
  have hA' : Hid (PodsBlk w B5 46 r (s + m) u a5 n2 c5 (some ⟨B', 0, none⟩)) := hA
  obtain ⟨y0, y1, y2, -, -⟩ := hA.cells
  obtain ⟨-, x1, -, x3, -, -⟩ := hB
  simp only [Nat.zero_add] at x1 x3
  have esm : s + m - s = m := by omega
  have e1 : (r != r) = false := by simp
  have e2 : (u != x - r - s - m) = false := by simp; omega
  have ub : 0 ≤ u ∧ u ≤ 2147483647 := by omega
  obtain ⟨ub0, ub1⟩ := ub
  have HU : Hid (x - r - s - m = u) := hu.symm
  clear hP hP5 hA hm hn2 hu hB' hJ hJ' hN hN5 hk hnj2 hbs hhv
  go_enter Trym.func31, Trym.ntmps31
  go_wp2
  go_quiet (fail)
  generalize hw1 : World.drewN w _ = w1
  have hb1' : Below w.heap.size w w1 := by rw [← hw1]; exact below_drewN (Below.refl _ _) _
  clear hw1 y0 y1 y2 x1 x3 hrm
  obtain ⟨-, -, -, y3, -⟩ := (hA'.out.below hb1').cells
  go_wp2_with fail
  refine (HFit.out _).mono ?_
  rintro e w2 ⟨rfl, rfl⟩
  go_wp2_with fail
  refine (HCo.out _ hb1').mono ?_
  rintro e w3 ⟨rfl, hb3⟩
  have hbel3 : Below w.heap.size w w3 := hb1'.trans (hb3.mono hb1'.size)
  clear hb3 y3 hb1' HCo HFit e1 e2 esm
  obtain ⟨-, -, -, -, y4⟩ := (hA'.out.below hbel3).cells
  obtain ⟨-, x1, x2, x3, x4, x5⟩ := HB.out.below hbel3
  obtain ⟨-, z1, z2, z3, z4, z5⟩ := HB'.out.below hbel3
  simp only [Nat.zero_add] at x1 x2 x3 x4 x5 z1 z2 z3 z4 z5
  go_wp2
  go_quiet ((go_at_call 13; rw [HU.out]; exact Calls.quiet_of_same (HCv.out _)))
  generalize hw4 : World.drewN w3 _ = w4
  have hbel4 : Below w.heap.size w w4 := by rw [← hw4]; exact below_drewN hbel3 _
  clear hw4 x1 x2 x3 x4 x5 z1 z2 z3 z4 z5 y4 hbel3
  obtain ⟨-, x1, x2, x3, x4, x5⟩ := HB.out.below hbel4
  obtain ⟨-, z1, z2, z3, z4, z5⟩ := HB'.out.below hbel4
  simp only [Nat.zero_add] at x1 x2 x3 x4 x5 z1 z2 z3 z4 z5
  go_wp2
  go_quiet (fail)
  generalize hw5 : World.drewN w4 _ = w5
  have hbel5 : Below w.heap.size w w5 := by rw [← hw5]; exact below_drewN hbel4 _
  clear hw5 x1 x2 x3 x4 x5 z1 z2 z3 z4 z5 hbel4
  obtain ⟨-, -, -, -, x4, -⟩ := HB.out.below hbel5
  obtain ⟨-, -, -, -, z4, -⟩ := HB'.out.below hbel5
  simp only [Nat.zero_add] at x4 z4
  go_wp2
  go_region_held3 (fun w' => w'.cell? ⟨B, 3, none⟩ = some (.slice aj nj cj) ∧ w'.cell? ⟨B', 3, none⟩ = some (.slice aj' nj2 cj')) (go_keep)
    ((go_at_call 14; refine (HJo.out _ ?_).mono ?_; (exact hbel5.drew); rintro e w6 ⟨rfl, hb6⟩; have hbel6 : Below w.heap.size w w6 := hbel5.drew.trans (hb6.mono hbel5.size); obtain ⟨-, -, -, -, v4, -⟩ := HB.out.below hbel6; obtain ⟨-, -, -, -, u4, -⟩ := HB'.out.below hbel6; simp only [Nat.zero_add] at v4 u4; clear hb6))
  clear x4 z4 v4 u4
  go_wp2
  go_ret
  exact ⟨rfl, hbel6⟩

end Go.Proofs.Qxb6601136aMods.Gr
