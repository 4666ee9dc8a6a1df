/- THE WALK of FnPlaceStartsAllPendingThatFit. -/
import Derived.Test.Qxb6601136aModsPlaceSmall
import Derived.Test.Qxb6601136aModsDom
namespace Go.Proofs.Qxb6601136aMods.PlaceLaw
open Go.ChangeShapes Go.WideShapes Go.ChangeAt Go.RowKit
open Go.Proofs.Qxb6601136aMods.Mem Go.Proofs.Qxb6601136aMods.Pool Go.Proofs.Qxb6601136aMods.Grow Go.Proofs.Qxb6601136aMods.Pods Go.Proofs.Qxb6601136aMods.Conv Go.Proofs.Qxb6601136aMods.PodsBoth Go.Proofs.Qxb6601136aMods.Place Go.Proofs.Qxb6601136aMods.Dom
set_option linter.unusedSimpArgs false
set_option linter.unusedVariables false

set_option maxHeartbeats 2000000 in
set_option maxRecDepth 100000 in
theorem walk_false (r s p t : Int) (a : Option Addr) (n c : Nat) (P Q : Nat → Int) (np : Option Addr) (pn dl rd jn : Int) (nj : Nat) (PJ QJ : Nat → Int) (w : World)
    (hr : -2147483648 ≤ r ∧ r ≤ 2147483647) (hs : -2147483648 ≤ s ∧ s ≤ 2147483647) (hp : -2147483648 ≤ p ∧ p ≤ 2147483647) (hn : n ≤ 9223372036854775807) (hnj : nj ≤ 9223372036854775807) (hnj0 : nj ≤ 1048576)
    (hnil : a = none → n = 0 ∧ c = 0) (hP : Prs .i32 w 0 a n P Q) (hN : NodesIn w np false pn dl rd jn nj PJ QJ) :
    Calls Trym.prog 5 #[.int .i32 r, .int .i32 s, .int .i32 p, .slice a n c, .pointer np, .int .i64 t] w fun e w' => e = .returned (.bool true) ∧ Below w.heap.size w w' := by
  have HP : Hid (Prs .i32 w 0 a n P Q) := hP
  have HN : Hid (NodesIn w np false pn dl rd jn nj PJ QJ) := hN
  have Hnil : Hid (a = none → n = 0 ∧ c = 0) := hnil
  obtain rfl := hN.1 rfl
  clear hP hN hnil
  go_enter Trym.func5, Trym.ntmps5
  go_wp2_with fail
  refine (bytes17 r s p t a n c none false pn dl rd jn nj PJ QJ w hn (fun _ => hnj) HN.out).mono ?_
  rintro e w' ⟨d, rfl, hd, rfl⟩
  cases d with
  | false =>
    clear hd
    go_wp2
    go_ret
    exact ⟨rfl, Below.refl _ _⟩
  | true =>
    obtain ⟨b1, b2⟩ := hd rfl
    clear b2
    clear hd hn hnj
    by_cases c1 : 32768 < n
    · go_wp2
      go_ret
      exact ⟨rfl, Below.refl _ _⟩
    · go_wp2_with fail
      refine (dom_any r s p none false pn dl rd jn nj PJ QJ w hr hs hp HN.out).mono ?_
      rintro e w1 ⟨d, rfl, hd, hb1⟩
      cases d with
      | false =>
        clear hd
        go_wp2
        go_ret
        exact ⟨rfl, hb1⟩
      | true =>
        obtain ⟨r0, s0, p0, hsum, hnod⟩ := hd rfl
        clear hd
        obtain ⟨rm, hrm⟩ : ∃ rm : Int, rm = 0 := ⟨_, rfl⟩
        clear hnod hrm
        have HP1 : Hid (Prs .i32 w1 0 a n P Q) := HP.out.below hb1
        have HN1 : Hid (NodesIn w1 none false pn dl rd jn nj PJ QJ) := HN.out.below hb1
        clear HP HN
        obtain ⟨m, hm⟩ : ∃ m, fit false rm r s p = m := ⟨_, rfl⟩
        obtain ⟨m0, m1⟩ : 0 ≤ m ∧ m ≤ p := by rw [← hm]; exact fit_bd p0 (fun h => by cases h)
        have HM : Hid (fit false rm r s p = m) := hm
        obtain ⟨n2, hn2⟩ : ∃ n2, cnt n m = n2 := ⟨_, rfl⟩
        have HC : Hid (cnt n m = n2) := hn2
        clear hm hn2
        go_wp2_with fail
        refine (cc_any a n c P Q w1 (by omega) Hnil.out HP1.out).mono ?_
        rintro e w2 ⟨a2, rfl, hn2, hP2, hb2⟩
        have HP2 : Hid (Prs .i32 w2 0 a2 n P Q) := hP2.mono (Nat.zero_le _)
        have Hn2 : Hid (a2 = none → n = 0 ∧ n = 0) := fun e => ⟨hn2 e, hn2 e⟩
        have HN2 : Hid (NodesIn w2 none false pn dl rd jn nj PJ QJ) := HN1.out.below hb2
        have hbel2 : Below w.heap.size w w2 := hb1.trans (hb2.mono hb1.size)
        clear hP2 hn2 hb1 hb2 HP1 HN1 Hnil
        go_wp2_with fail
        refine (clone_any none false nj pn dl rd jn PJ QJ w2 hnj0 HN2.out).mono ?_
        rintro e w3 ⟨np3, rfl, hN3, hb3⟩
        have HN3 : Hid (NodesR w3 np3 false pn dl rd jn nj PJ QJ) := hN3.toR
        have HP3 : Hid (Prs .i32 w3 0 a2 n P Q) := HP2.out.below hb3
        have hbel3 : Below w.heap.size w w3 := hbel2.trans (hb3.mono hbel2.size)
        obtain rfl := hN3.1 rfl
        clear hN3 hb3 hbel2 HP2 HN2
        go_wp2_with fail
        refine (zpods_any r s p a2 n n P Q none false pn dl rd jn nj PJ QJ w3 (by omega) hnj0 Hn2.out HP3.out HN3.out).mono ?_
        rintro e w4 ⟨a4, np4, rfl, hn4, hP4, hN4, hb4⟩
        have HP4 : Hid (Prs .i32 w4 0 a4 n P Q) := hP4
        have HN4 : Hid (NodesR w4 np4 false pn dl rd jn nj PJ QJ) := hN4
        have Hn4 : Hid (a4 = none → n = 0 ∧ n = 0) := fun e => ⟨hn4 e, hn4 e⟩
        have HP3' : Hid (Prs .i32 w4 0 a2 n P Q) := HP3.out.below hb4
        have HN3' : Hid (NodesR w4 none false pn dl rd jn nj PJ QJ) := HN3.out.below hb4
        have hbel4 : Below w.heap.size w w4 := hbel3.trans (hb4.mono hbel3.size)
        clear hP4 hN4 hn4 hb4 HP3 HN3 hbel3
        go_wp2_with fail
        refine (zzplace_any r s p t a4 n n P Q np4 false pn dl rd jn rm nj PJ QJ w4 (by omega) hnj0 r0 s0 p0 hsum (fun h => by cases h) Hn4.out HP4.out HN4.out).mono ?_
        rintro e w5 ⟨a5, np5, he5, hP5, hN5, hb5⟩
        rw [HM.out, HC.out] at he5 hP5
        subst he5
        have HP5 : Hid (Prs .i32 w5 0 a5 n2 (upd P n t) (upd Q n m)) := hP5
        have HN5 : Hid (NodesR w5 np5 false pn dl rd jn nj PJ QJ) := hN5
        have HP3'' : Hid (Prs .i32 w5 0 a2 n P Q) := HP3'.out.below hb5
        have HN3'' : Hid (NodesR w5 none false pn dl rd jn nj PJ QJ) := HN3'.out.below hb5
        have hbel5 : Below w.heap.size w w5 := hbel4.trans (hb5.mono hbel4.size)
        clear hP5 hN5 hb5 HP3' HN3' HP4 HN4 hbel4 Hn2 Hn4
        have epm : p - (p - m) = m := by omega
        have HFit : Hid (∀ W : World, Calls Trym.prog 23 #[.int .i64 (r + s), .int .i64 p, .int .i64 m, .bool false, .int .i64 0] W fun e w' => e = .returned (.bool true) ∧ W = w') := fun W => by
          have := fits_any false rm r s p 0 W r0 s0 p0 hsum (fun h => by cases h)
          rw [HM.out] at this
          exact this
        go_wp2_with fail
        generalize hw6 : World.alloc w5 _ = w6
        have hA6 : PodsBlk w6 w5.heap.size 46 r (s + m) (p - m) a5 n2 n2 np5 := by rw [← hw6]; exact PodsBlk.new w5 46 r (s + m) (p - m) a5 n2 n2 np5
        have hb6 : Below w5.heap.size w5 w6 := by rw [← hw6]; exact (Below.refl _ _).alloc (Nat.le_refl _) _
        have HP6 : Hid (Prs .i32 w6 0 a5 (cnt n m) (upd P n t) (upd Q n m)) := by rw [HC.out]; exact HP5.out.below hb6
        have HP3s : Hid (Prs .i32 w6 0 a2 n P Q) := HP3''.out.below hb6
        have HN6 : Hid (NodesR w6 np5 false pn dl rd jn nj PJ QJ) := HN5.out.below hb6
        have HN3s : Hid (NodesR w6 none false pn dl rd jn nj PJ QJ) := HN3''.out.below hb6
        have hbel6 : Below w.heap.size w w6 := hbel5.trans (hb6.mono hbel5.size)
        obtain ⟨o0, o1, o2, o3, o4⟩ := hA6.cells
        have HA6 : Hid (PodsBlk w6 w5.heap.size 46 r (s + m) (p - m) a5 n2 n2 np5) := hA6
        clear hw6 hA6 o0 o1 o2 hb6 HP5 HP3'' HN5 HN3'' hbel5 epm
        go_wp2_with fail
        refine (HFit.out _).mono ?_
        rintro e w7 ⟨rfl, rfl⟩
        have HCo : Hid (Calls Trym.prog 24 #[.slice a5 n2 n2, .slice a2 n n, .int .i64 t, .int .i64 m] w6 fun e w' => e = .returned (.bool true) ∧ Below w6.heap.size w6 w') := by
          have := coh_any a5 a2 n n2 n P Q t m w6 (by omega) m0 (by omega) HP6.out HP3s.out
          rw [HC.out] at this
          exact this
        go_wp2_with fail
        refine HCo.out.mono ?_
        rintro e w8 ⟨rfl, hb8⟩
        have HN8 : Hid (NodesR w8 np5 false pn dl rd jn nj PJ QJ) := HN6.out.below hb8
        have HN3t : Hid (NodesR w8 none false pn dl rd jn nj PJ QJ) := HN3s.out.below hb8
        have hbel8 : Below w.heap.size w w8 := hbel6.trans (hb8.mono hbel6.size)
        obtain ⟨u0, u1, u2, u3, u4⟩ := (HA6.out.below hb8).cells
        clear hb8 u0 u1 u2 u3 o3 o4 HCo HA6 hbel6 HN6 HN3s HP6 HP3s HFit
        go_wp2_with fail
        refine (same_any np5 none false nj pn dl rd jn PJ QJ w8 hnj0 HN8.out HN3t.out).mono ?_
        rintro e w9 ⟨rfl, hb9⟩
        go_wp2
        go_ret
        exact ⟨rfl, hbel8.trans (hb9.mono hbel8.size)⟩


set_option maxHeartbeats 2000000 in
set_option maxRecDepth 100000 in
theorem walk_true (r s p t : Int) (a : Option Addr) (n c : Nat) (P Q : Nat → Int) (np : Option Addr) (pn dl rd jn : Int) (nj : Nat) (PJ QJ : Nat → Int) (w : World)
    (hr : -2147483648 ≤ r ∧ r ≤ 2147483647) (hs : -2147483648 ≤ s ∧ s ≤ 2147483647) (hp : -2147483648 ≤ p ∧ p ≤ 2147483647) (hn : n ≤ 9223372036854775807) (hnj : nj ≤ 9223372036854775807)
    (hnil : a = none → n = 0 ∧ c = 0) (hP : Prs .i32 w 0 a n P Q) (hN : NodesIn w np true pn dl rd jn nj PJ QJ) :
    Calls Trym.prog 5 #[.int .i32 r, .int .i32 s, .int .i32 p, .slice a n c, .pointer np, .int .i64 t] w fun e w' => e = .returned (.bool true) ∧ Below w.heap.size w w' := by
  have HP : Hid (Prs .i32 w 0 a n P Q) := hP
  have HN : Hid (NodesIn w np true pn dl rd jn nj PJ QJ) := hN
  have Hnil : Hid (a = none → n = 0 ∧ c = 0) := hnil
  obtain ⟨B, off, aj, cj, rfl, hpat, _, _⟩ := hN.2 rfl
  obtain ⟨x0, x1, x2, x3, x4, x5⟩ := hpat
  clear x0 x1 x2 x3 x5
  clear hP hN hnil
  go_enter Trym.func5, Trym.ntmps5
  go_wp2_with fail
  refine (bytes17 r s p t a n c (some ⟨B, off, none⟩) true pn dl rd jn nj PJ QJ w hn (fun _ => hnj) HN.out).mono ?_
  rintro e w' ⟨d, rfl, hd, rfl⟩
  cases d with
  | false =>
    clear hd
    go_wp2
    go_ret
    exact ⟨rfl, Below.refl _ _⟩
  | true =>
    obtain ⟨b1, b2⟩ := hd rfl
    have b3 := b2 rfl
    clear b2
    clear hd hn hnj
    by_cases c1 : 32768 < n
    · go_wp2
      go_ret
      exact ⟨rfl, Below.refl _ _⟩
    · by_cases c2 : 32768 < nj
      · go_wp2
        go_ret
        exact ⟨rfl, Below.refl _ _⟩
      · go_wp2_with fail
        refine (dom_any r s p (some ⟨B, off, none⟩) true pn dl rd jn nj PJ QJ w hr hs hp HN.out).mono ?_
        rintro e w1 ⟨d, rfl, hd, hb1⟩
        cases d with
        | false =>
          clear hd
          go_wp2
          go_ret
          exact ⟨rfl, hb1⟩
        | true =>
          obtain ⟨r0, s0, p0, hsum, hnod⟩ := hd rfl
          clear hd
          obtain ⟨q1, q2, q3, q4, q5⟩ := hnod rfl
          obtain ⟨g0, g1⟩ := Ask.base_bd (pn := pn) (jn := rd) q1 q2 q3 q4
          obtain ⟨rm, hrm⟩ : ∃ rm : Int, rd * pn = rm := ⟨_, rfl⟩
          rw [hrm] at g0 g1 q5
          have HRM : Hid (rd * pn = rm) := hrm
          clear hnod hrm x4
          have HP1 : Hid (Prs .i32 w1 0 a n P Q) := HP.out.below hb1
          have HN1 : Hid (NodesIn w1 (some ⟨B, off, none⟩) true pn dl rd jn nj PJ QJ) := HN.out.below hb1
          clear HP HN
          obtain ⟨m, hm⟩ : ∃ m, fit true rm r s p = m := ⟨_, rfl⟩
          obtain ⟨m0, m1⟩ : 0 ≤ m ∧ m ≤ p := by rw [← hm]; exact fit_bd p0 (fun _ => q5)
          have HM : Hid (fit true rm r s p = m) := hm
          obtain ⟨n2, hn2⟩ : ∃ n2, cnt n m = n2 := ⟨_, rfl⟩
          have HC : Hid (cnt n m = n2) := hn2
          clear hm hn2
          go_wp2_with fail
          refine (cc_any a n c P Q w1 (by omega) Hnil.out HP1.out).mono ?_
          rintro e w2 ⟨a2, rfl, hn2, hP2, hb2⟩
          have HP2 : Hid (Prs .i32 w2 0 a2 n P Q) := hP2.mono (Nat.zero_le _)
          have Hn2 : Hid (a2 = none → n = 0 ∧ n = 0) := fun e => ⟨hn2 e, hn2 e⟩
          have HN2 : Hid (NodesIn w2 (some ⟨B, off, none⟩) true pn dl rd jn nj PJ QJ) := HN1.out.below hb2
          have hbel2 : Below w.heap.size w w2 := hb1.trans (hb2.mono hb1.size)
          clear hP2 hn2 hb1 hb2 HP1 HN1 Hnil
          go_wp2_with fail
          refine (clone_any (some ⟨B, off, none⟩) true nj pn dl rd jn PJ QJ w2 b3 HN2.out).mono ?_
          rintro e w3 ⟨np3, rfl, hN3, hb3⟩
          have HN3 : Hid (NodesR w3 np3 true pn dl rd jn nj PJ QJ) := hN3.toR
          have HP3 : Hid (Prs .i32 w3 0 a2 n P Q) := HP2.out.below hb3
          have hbel3 : Below w.heap.size w w3 := hbel2.trans (hb3.mono hbel2.size)
          obtain ⟨B3, aj3, rfl, _, _, _, _⟩ := hN3.2 rfl
          clear hN3 hb3 hbel2 HP2 HN2
          go_wp2_with fail
          refine (zpods_any r s p a2 n n P Q (some ⟨B3, 0, none⟩) true pn dl rd jn nj PJ QJ w3 (by omega) b3 Hn2.out HP3.out HN3.out).mono ?_
          rintro e w4 ⟨a4, np4, rfl, hn4, hP4, hN4, hb4⟩
          have HP4 : Hid (Prs .i32 w4 0 a4 n P Q) := hP4
          have HN4 : Hid (NodesR w4 np4 true pn dl rd jn nj PJ QJ) := hN4
          have Hn4 : Hid (a4 = none → n = 0 ∧ n = 0) := fun e => ⟨hn4 e, hn4 e⟩
          have HP3' : Hid (Prs .i32 w4 0 a2 n P Q) := HP3.out.below hb4
          have HN3' : Hid (NodesR w4 (some ⟨B3, 0, none⟩) true pn dl rd jn nj PJ QJ) := HN3.out.below hb4
          have hbel4 : Below w.heap.size w w4 := hbel3.trans (hb4.mono hbel3.size)
          clear hP4 hN4 hn4 hb4 HP3 HN3 hbel3
          go_wp2_with fail
          refine (zzplace_any r s p t a4 n n P Q np4 true pn dl rd jn rm nj PJ QJ w4 (by omega) b3 r0 s0 p0 hsum (fun _ => ⟨HRM.out, g0, g1, q5⟩) Hn4.out HP4.out HN4.out).mono ?_
          rintro e w5 ⟨a5, np5, he5, hP5, hN5, hb5⟩
          rw [HM.out, HC.out] at he5 hP5
          subst he5
          have HP5 : Hid (Prs .i32 w5 0 a5 n2 (upd P n t) (upd Q n m)) := hP5
          have HN5 : Hid (NodesR w5 np5 true pn dl rd jn nj PJ QJ) := hN5
          have HP3'' : Hid (Prs .i32 w5 0 a2 n P Q) := HP3'.out.below hb5
          have HN3'' : Hid (NodesR w5 (some ⟨B3, 0, none⟩) true pn dl rd jn nj PJ QJ) := HN3'.out.below hb5
          have hbel5 : Below w.heap.size w w5 := hbel4.trans (hb5.mono hbel4.size)
          clear hP5 hN5 hb5 HP3' HN3' HP4 HN4 hbel4 Hn2 Hn4
          have epm : p - (p - m) = m := by omega
          have HFit : Hid (∀ W : World, Calls Trym.prog 23 #[.int .i64 (r + s), .int .i64 p, .int .i64 m, .bool true, .int .i64 rm] W fun e w' => e = .returned (.bool true) ∧ W = w') := fun W => by
            have := fits_any true rm r s p rm W r0 s0 p0 hsum (fun _ => ⟨q5, rfl, g1⟩)
            rw [HM.out] at this
            exact this
          obtain ⟨B3', a3', c3', e3, hat, _, _⟩ := HN3''.out.2 rfl
          obtain rfl : B3 = B3' := by simpa using e3
          have hat2 : ∀ o, PoolAt (w5.alloc o) B3 0 pn dl rd a3' nj c3' jn := fun o => hat.below ((Below.refl _ _).alloc (Nat.le_refl _) o)
          have z1 : ∀ o, (w5.alloc o).cell? ⟨B3, 0, none⟩ = some (.int .i64 pn) := fun o => (hat2 o).2.1
          have z3 : ∀ o, (w5.alloc o).cell? ⟨B3, 2, none⟩ = some (.int .i64 rd) := fun o => (hat2 o).2.2.2.1
          have hrm := HRM.out
          clear e3 hat hat2
          go_wp2_with fail
          go_quiet (fail)
          generalize hw6 : World.drewN (World.alloc w5 _) _ = w6
          have hA6 : PodsBlk w6 w5.heap.size 46 r (s + m) (p - m) a5 n2 n2 np5 := by rw [← hw6]; exact PodsBlk.new w5 46 r (s + m) (p - m) a5 n2 n2 np5
          have hb6 : Below w5.heap.size w5 w6 := by rw [← hw6]; exact below_drewN ((Below.refl _ _).alloc (Nat.le_refl _) _) _
          have HP6 : Hid (Prs .i32 w6 0 a5 (cnt n m) (upd P n t) (upd Q n m)) := by rw [HC.out]; exact HP5.out.below hb6
          have HP3s : Hid (Prs .i32 w6 0 a2 n P Q) := HP3''.out.below hb6
          have HN6 : Hid (NodesR w6 np5 true pn dl rd jn nj PJ QJ) := HN5.out.below hb6
          have HN3s : Hid (NodesR w6 (some ⟨B3, 0, none⟩) true pn dl rd jn nj PJ QJ) := HN3''.out.below hb6
          have hbel6 : Below w.heap.size w w6 := hbel5.trans (hb6.mono hbel5.size)
          obtain ⟨o0, o1, o2, o3, o4⟩ := hA6.cells
          have HA6 : Hid (PodsBlk w6 w5.heap.size 46 r (s + m) (p - m) a5 n2 n2 np5) := hA6
          clear hw6 hA6 o0 o1 o2 hb6 HP5 HP3'' HN5 HN3'' hbel5 epm
          clear z1 z3 hrm
          go_wp2_with fail
          refine (HFit.out _).mono ?_
          rintro e w7 ⟨rfl, rfl⟩
          have HCo : Hid (Calls Trym.prog 24 #[.slice a5 n2 n2, .slice a2 n n, .int .i64 t, .int .i64 m] w6 fun e w' => e = .returned (.bool true) ∧ Below w6.heap.size w6 w') := by
            have := coh_any a5 a2 n n2 n P Q t m w6 (by omega) m0 (by omega) HP6.out HP3s.out
            rw [HC.out] at this
            exact this
          go_wp2_with fail
          refine HCo.out.mono ?_
          rintro e w8 ⟨rfl, hb8⟩
          have HN8 : Hid (NodesR w8 np5 true pn dl rd jn nj PJ QJ) := HN6.out.below hb8
          have HN3t : Hid (NodesR w8 (some ⟨B3, 0, none⟩) true pn dl rd jn nj PJ QJ) := HN3s.out.below hb8
          have hbel8 : Below w.heap.size w w8 := hbel6.trans (hb8.mono hbel6.size)
          obtain ⟨u0, u1, u2, u3, u4⟩ := (HA6.out.below hb8).cells
          clear hb8 u0 u1 u2 u3 o3 o4 HCo HA6 hbel6 HN6 HN3s HP6 HP3s HFit
          go_wp2_with fail
          refine (same_any np5 (some ⟨B3, 0, none⟩) true nj pn dl rd jn PJ QJ w8 b3 HN8.out HN3t.out).mono ?_
          rintro e w9 ⟨rfl, hb9⟩
          go_wp2
          go_ret
          exact ⟨rfl, hbel8.trans (hb9.mono hbel8.size)⟩


end Go.Proofs.Qxb6601136aMods.PlaceLaw
