/- THE WALK of FnScaleToKeepsFirstNPodsAndAsksFewestNodes. -/
import Derived.Test.Qxb6601136aModsPlaceSmall
import Derived.Test.Qxb6601136aModsDom2
import Derived.Test.Qxb6601136aModsZZScale
import Derived.Test.Qxb6601136aModsGrRight
import Derived.Test.Qxb6601136aModsShrRight
namespace Go.Proofs.Qxb6601136aMods.ScaleLaw
open Go.ChangeShapes Go.WideShapes Go.ChangeAt Go.RowKit
open Go.Proofs.Qxb6601136aMods.Mem Go.Proofs.Qxb6601136aMods.Pool Go.Proofs.Qxb6601136aMods.Grow Go.Proofs.Qxb6601136aMods.Pods Go.Proofs.Qxb6601136aMods.Conv Go.Proofs.Qxb6601136aMods.PodsBoth Go.Proofs.Qxb6601136aMods.Place Go.Proofs.Qxb6601136aMods.Dom Go.Proofs.Qxb6601136aMods.Gr
open Go.Proofs.Qxb6601136aMods.Ask (need base_bd)
set_option linter.unusedSimpArgs false
set_option linter.unusedVariables false

set_option maxHeartbeats 2000000 in
set_option maxRecDepth 100000 in
theorem walk_false (r s p t x : Int) (a : Option Addr) (n c : Nat) (P Q : Nat → Int) (np : Option Addr) (pn dl rd jn : Int) (nj : Nat) (PJ QJ : Nat → Int) (w : World)
    (hr : -2147483648 ≤ r ∧ r ≤ 2147483647) (hs : -2147483648 ≤ s ∧ s ≤ 2147483647) (hp : -2147483648 ≤ p ∧ p ≤ 2147483647) (hx : -2147483648 ≤ x ∧ x ≤ 2147483647) (hn : n ≤ 9223372036854775807) (hnj : nj ≤ 9223372036854775807) (hnj0 : nj ≤ 32768)
    (hnil : a = none → n = 0 ∧ c = 0) (hq : ∀ j, j < n → -2147483648 ≤ Q j ∧ Q j ≤ 2147483647) (hP : Prs .i32 w 0 a n P Q) (hN : NodesIn w np false pn dl rd jn nj PJ QJ) :
    Calls Trym.prog 7 #[.int .i32 r, .int .i32 s, .int .i32 p, .slice a n c, .pointer np, .int .i64 t, .int .i32 x] w fun e w' => e = .returned (.bool true) ∧ Below w.heap.size w w' := by
  have HP : Hid (Prs .i32 w 0 a n P Q) := hP
  have HN : Hid (NodesIn w np false pn dl rd jn nj PJ QJ) := hN
  have Hnil : Hid (a = none → n = 0 ∧ c = 0) := hnil
  have HQ : Hid (∀ j, j < n → -2147483648 ≤ Q j ∧ Q j ≤ 2147483647) := hq
  obtain rfl := hN.1 rfl
  clear hP hN hnil hq
  go_enter Trym.func7, Trym.ntmps7
  go_wp2_with fail
  refine (bytes28 r s p t x a n c none false pn dl rd jn nj PJ QJ w hn (fun _ => hnj) HN.out).mono ?_
  rintro e w' ⟨d, rfl, hd, rfl⟩
  cases d with
  | false =>
    clear hd
    go_wp2
    go_ret
    exact ⟨rfl, Below.refl _ _⟩
  | true =>
    clear hd hn hnj
    by_cases c1 : 32768 < n
    · go_wp2
      go_ret
      exact ⟨rfl, Below.refl _ _⟩
    go_wp2_with fail
    refine (doms_any r s p x a n c P Q none false pn dl rd jn nj PJ QJ w (by omega) HQ.out HP.out hr hs hp hx HN.out).mono ?_
    rintro e w1 ⟨d, rfl, hd, hb1⟩
    cases d with
    | false =>
      clear hd
      go_wp2
      go_ret
      exact ⟨rfl, hb1⟩
    | true =>
      obtain ⟨r0, s0, p0, x0, hsum, hgr, hsh⟩ := hd rfl
      have HSh : Hid (x ≤ r + s + p → (∀ j, j < n → 0 < Q j) ∧ Shr.sm Q n = s) := hsh
      clear hd hgr hsh
      have HP1 : Hid (Prs .i32 w1 0 a n P Q) := HP.out.below hb1
      have HN1 : Hid (NodesIn w1 none false pn dl rd jn nj PJ QJ) := HN.out.below hb1
      clear HP HN
      go_wp2_with fail
      refine (cc_any a n c P Q w1 (by omega) Hnil.out HP1.out).mono ?_
      rintro e w2 ⟨a2, rfl, hn2, hP2, hb2⟩
      have HP2 : Hid (Prs .i32 w2 0 a2 n P Q) := hP2.mono (Nat.zero_le _)
      have Hn2 : Hid (a2 = none → n = 0 ∧ n = 0) := fun e => ⟨hn2 e, hn2 e⟩
      have HN2 : Hid (NodesIn w2 none false pn dl rd jn nj PJ QJ) := HN1.out.below hb2
      have hbel2 : Below w.heap.size w w2 := hb1.trans (hb2.mono hb1.size)
      clear hP2 hn2 hb1 hb2 HP1 HN1 Hnil
      go_wp2_with fail
      refine (clone_any none false nj pn dl rd jn PJ QJ w2 (by omega) HN2.out).mono ?_
      rintro e w3 ⟨np3, rfl, hN3, hb3⟩
      have HN3 : Hid (NodesR w3 np3 false pn dl rd jn nj PJ QJ) := hN3.toR
      have HP3 : Hid (Prs .i32 w3 0 a2 n P Q) := HP2.out.below hb3
      have hbel3 : Below w.heap.size w w3 := hbel2.trans (hb3.mono hbel2.size)
      obtain rfl := hN3.1 rfl
      clear hN3 hb3 hbel2 HP2 HN2
      go_wp2_with fail
      refine (zpods_any r s p a2 n n P Q none false pn dl rd jn nj PJ QJ w3 (by omega) (by omega) Hn2.out HP3.out HN3.out).mono ?_
      rintro e w4 ⟨a4, np4, rfl, hn4, hP4, hN4, hb4⟩
      have HP4 : Hid (Prs .i32 w4 0 a4 n P Q) := hP4
      have HN4 : Hid (NodesR w4 np4 false pn dl rd jn nj PJ QJ) := hN4
      have Hn4 : Hid (a4 = none → n = 0 ∧ n = 0) := fun e => ⟨hn4 e, hn4 e⟩
      have HP3' : Hid (Prs .i32 w4 0 a2 n P Q) := HP3.out.below hb4
      have HN3' : Hid (NodesR w4 none false pn dl rd jn nj PJ QJ) := HN3.out.below hb4
      have hbel4 : Below w.heap.size w w4 := hbel3.trans (hb4.mono hbel3.size)
      clear hP4 hN4 hn4 hb4 HP3 HN3 hbel3
      by_cases hg : r + s + p < x
      · skip
        obtain ⟨rm, hrm⟩ : ∃ rm : Int, rm = 0 := ⟨_, rfl⟩
        obtain ⟨base, hbs⟩ : ∃ base : Int, base = 0 := ⟨_, rfl⟩
        obtain ⟨m, hm⟩ : ∃ m, fit false rm r s (x - r - s) = m := ⟨_, rfl⟩
        obtain ⟨m0, m1⟩ : 0 ≤ m ∧ m ≤ x - r - s := by rw [← hm]; exact fit_bd (by omega) (fun h => by cases h)
        have HM : Hid (fit false rm r s (x - r - s) = m) := hm
        obtain ⟨u, hu⟩ : ∃ u, u = x - r - s - m := ⟨_, rfl⟩
        have HU : Hid (u = x - r - s - m) := hu
        obtain ⟨k, hk⟩ : ∃ k, askd false pn base u = k := ⟨_, rfl⟩
        have HK : Hid (askd false pn base u = k) := hk
        obtain ⟨n2, hn2⟩ : ∃ n2, cnt n m = n2 := ⟨_, rfl⟩
        have HC : Hid (cnt n m = n2) := hn2
        obtain ⟨nj2, hnj2⟩ : ∃ nj2, cnt nj k = nj2 := ⟨_, rfl⟩
        have HCJ : Hid (cnt nj k = nj2) := hnj2
        clear hm hu hk hn2 hnj2 hrm hbs HSh
        go_wp2_with fail
        refine (zzgrow n n nj n2 nj2 a4 r s p t x m k rm base u P Q np4 false pn dl rd jn PJ QJ w4 (by omega) (by omega) r0 s0 p0 hsum hg hx.2 (fun h => by cases h) (fun h => by cases h) HM.out HU.out HK.out HC.out HCJ.out Hn4.out HP4.out HN4.out).mono ?_
        rintro e w5 ⟨a5, np5, rfl, hP5, hN5, hb5⟩
        obtain rfl := hN5.1 rfl
        have hk0 : k = 0 := by have := HK.out; simp [askd] at this; omega
        subst hk0
        have HP5 : Hid (Prs .i32 w5 0 a5 n2 (upd P n t) (upd Q n m)) := hP5
        have HP3'' : Hid (Prs .i32 w5 0 a2 n P Q) := HP3'.out.below hb5
        have HN3'' : Hid (NodesR w5 none false pn dl rd jn nj PJ QJ) := HN3'.out.below hb5
        have hbel5 : Below w.heap.size w w5 := hbel4.trans (hb5.mono hbel4.size)
        clear hP5 hN5 hb5 HP3' HN3' HP4 HN4 hbel4 Hn2 Hn4
        go_wp2_with fail
        generalize hw6 : World.alloc w5 _ = w6
        have hA6 : PodsBlk w6 w5.heap.size 46 r (s + m) u a5 n2 n2 none := by rw [← hw6]; exact PodsBlk.new w5 46 r (s + m) u a5 n2 n2 none
        have hb6 : Below w5.heap.size w5 w6 := by rw [← hw6]; exact (Below.refl _ _).alloc (Nat.le_refl _) _
        have hbel6 : Below w.heap.size w w6 := hbel5.trans (hb6.mono hbel5.size)
        refine (grown_false n n nj n2 nj2 n2 w5.heap.size a2 a5 r s p t x m rm u P Q none w6 (by omega) r0 s0 p0 hsum hg hx.2 HM.out HU.out HC.out (HP3''.out.below hb6) (HP5.out.below hb6) hA6).mono ?_
        rintro e w7 ⟨rfl, hb7⟩
        clear hw6
        go_wp2
        go_ret
        exact ⟨rfl, hbel6.trans (hb7.mono hbel6.size)⟩
      · have hxe : x ≤ r + s + p := by omega
        obtain ⟨hpos, hsm⟩ := HSh.out hxe
        have HPos : Hid (∀ j, j < n → 0 < Q j) := hpos
        have HSm : Hid (Shr.sm Q n = s) := hsm
        clear hpos hsm HSh
        go_wp2_with fail
        refine (zzshr n n nj a4 r s p t x P Q np4 false pn dl rd jn PJ QJ w4 (by omega) (by omega) r0 s0 p0 x0 hsum hxe HPos.out HSm.out Hn4.out HP4.out HN4.out).mono ?_
        rintro e w5 ⟨a5, np5, m, Q', r', s', p', rfl, hP5, hN5, hS5, hmn, hb5⟩
        have HP5 : Hid (Prs .i32 w5 0 a5 m P Q') := hP5
        have HN5 : Hid (NodesR w5 np5 false pn dl rd jn nj PJ QJ) := hN5
        have HS5 : Hid (Shr.ShrP r s x n Q m Q' r' s' p') := hS5
        have HP3'' : Hid (Prs .i32 w5 0 a2 n P Q) := HP3'.out.below hb5
        have HN3'' : Hid (NodesR w5 none false pn dl rd jn nj PJ QJ) := HN3'.out.below hb5
        have hbel5 : Below w.heap.size w w5 := hbel4.trans (hb5.mono hbel4.size)
        clear hP5 hN5 hS5 hb5 HP3' HN3' HP4 HN4 hbel4 Hn2 Hn4
        go_wp2_with fail
        generalize hw6 : World.alloc w5 _ = w6
        have hA6 : PodsBlk w6 w5.heap.size 46 r' s' p' a5 m m np5 := by rw [← hw6]; exact PodsBlk.new w5 46 r' s' p' a5 m m np5
        have hb6 : Below w5.heap.size w5 w6 := by rw [← hw6]; exact (Below.refl _ _).alloc (Nat.le_refl _) _
        have hbel6 : Below w.heap.size w w6 := hbel5.trans (hb6.mono hbel5.size)
        refine (Shr.shrunk_any r s x a2 a5 n n m m w5.heap.size P Q Q' r' s' p' none np5 false pn dl rd jn nj PJ QJ w6 (by omega) (by omega) HQ.out ⟨r0, hr.2⟩ ⟨s0, hs.2⟩ ⟨x0, hx.2⟩ (HP3''.out.below hb6) (HP5.out.below hb6) hA6 (HN3''.out.below hb6) (HN5.out.below hb6) HS5.out).mono ?_
        rintro e w7 ⟨rfl, hb7⟩
        clear hw6
        go_wp2
        go_ret
        exact ⟨rfl, hbel6.trans (hb7.mono hbel6.size)⟩

set_option maxHeartbeats 2000000 in
set_option maxRecDepth 100000 in
theorem walk_true (r s p t x : Int) (a : Option Addr) (n c : Nat) (P Q : Nat → Int) (np : Option Addr) (pn dl rd jn : Int) (nj : Nat) (PJ QJ : Nat → Int) (w : World)
    (hr : -2147483648 ≤ r ∧ r ≤ 2147483647) (hs : -2147483648 ≤ s ∧ s ≤ 2147483647) (hp : -2147483648 ≤ p ∧ p ≤ 2147483647) (hx : -2147483648 ≤ x ∧ x ≤ 2147483647) (hn : n ≤ 9223372036854775807) (hnj : nj ≤ 9223372036854775807)
    (hnil : a = none → n = 0 ∧ c = 0) (hq : ∀ j, j < n → -2147483648 ≤ Q j ∧ Q j ≤ 2147483647) (hP : Prs .i32 w 0 a n P Q) (hN : NodesIn w np true pn dl rd jn nj PJ QJ) :
    Calls Trym.prog 7 #[.int .i32 r, .int .i32 s, .int .i32 p, .slice a n c, .pointer np, .int .i64 t, .int .i32 x] w fun e w' => e = .returned (.bool true) ∧ Below w.heap.size w w' := by
  have HP : Hid (Prs .i32 w 0 a n P Q) := hP
  have HN : Hid (NodesIn w np true pn dl rd jn nj PJ QJ) := hN
  have Hnil : Hid (a = none → n = 0 ∧ c = 0) := hnil
  have HQ : Hid (∀ j, j < n → -2147483648 ≤ Q j ∧ Q j ≤ 2147483647) := hq
  obtain ⟨B, off, aj, cj, rfl, hpat, _, _⟩ := hN.2 rfl
  obtain ⟨-, -, -, -, x4, -⟩ := hpat
  clear hP hN hnil hq
  go_enter Trym.func7, Trym.ntmps7
  go_wp2_with fail
  refine (bytes28 r s p t x a n c (some ⟨B, off, none⟩) true pn dl rd jn nj PJ QJ w hn (fun _ => hnj) HN.out).mono ?_
  rintro e w' ⟨d, rfl, hd, rfl⟩
  cases d with
  | false =>
    clear hd
    go_wp2
    go_ret
    exact ⟨rfl, Below.refl _ _⟩
  | true =>
    clear hd hn hnj
    by_cases c1 : 32768 < n
    · go_wp2
      go_ret
      exact ⟨rfl, Below.refl _ _⟩
    by_cases c2 : 32768 < nj
    · go_wp2
      go_ret
      exact ⟨rfl, Below.refl _ _⟩
    have hnj0 : nj ≤ 32768 := by omega
    go_wp2_with fail
    refine (doms_any r s p x a n c P Q (some ⟨B, off, none⟩) true pn dl rd jn nj PJ QJ w (by omega) HQ.out HP.out hr hs hp hx HN.out).mono ?_
    rintro e w1 ⟨d, rfl, hd, hb1⟩
    cases d with
    | false =>
      clear hd
      go_wp2
      go_ret
      exact ⟨rfl, hb1⟩
    | true =>
      obtain ⟨r0, s0, p0, x0, hsum, hgr, hsh⟩ := hd rfl
      have HGr : Hid (r + s + p < x → 1 ≤ pn ∧ pn ≤ 2147483647 ∧ 0 ≤ rd ∧ rd ≤ 4294967296 ∧ 0 ≤ jn ∧ jn ≤ 4294967296 ∧ r + s ≤ rd * pn) := fun h => hgr h rfl
      have HSh : Hid (x ≤ r + s + p → (∀ j, j < n → 0 < Q j) ∧ Shr.sm Q n = s) := hsh
      clear hd hgr hsh x4
      have HP1 : Hid (Prs .i32 w1 0 a n P Q) := HP.out.below hb1
      have HN1 : Hid (NodesIn w1 (some ⟨B, off, none⟩) true pn dl rd jn nj PJ QJ) := HN.out.below hb1
      clear HP HN
      go_wp2_with fail
      refine (cc_any a n c P Q w1 (by omega) Hnil.out HP1.out).mono ?_
      rintro e w2 ⟨a2, rfl, hn2, hP2, hb2⟩
      have HP2 : Hid (Prs .i32 w2 0 a2 n P Q) := hP2.mono (Nat.zero_le _)
      have Hn2 : Hid (a2 = none → n = 0 ∧ n = 0) := fun e => ⟨hn2 e, hn2 e⟩
      have HN2 : Hid (NodesIn w2 (some ⟨B, off, none⟩) true pn dl rd jn nj PJ QJ) := HN1.out.below hb2
      have hbel2 : Below w.heap.size w w2 := hb1.trans (hb2.mono hb1.size)
      clear hP2 hn2 hb1 hb2 HP1 HN1 Hnil
      go_wp2_with fail
      refine (clone_any (some ⟨B, off, none⟩) true nj pn dl rd jn PJ QJ w2 (by omega) HN2.out).mono ?_
      rintro e w3 ⟨np3, rfl, hN3, hb3⟩
      have HN3 : Hid (NodesR w3 np3 true pn dl rd jn nj PJ QJ) := hN3.toR
      have HP3 : Hid (Prs .i32 w3 0 a2 n P Q) := HP2.out.below hb3
      have hbel3 : Below w.heap.size w w3 := hbel2.trans (hb3.mono hbel2.size)
      obtain ⟨B3, aj3, rfl, _, _, _, _⟩ := hN3.2 rfl
      clear hN3 hb3 hbel2 HP2 HN2
      go_wp2_with fail
      refine (zpods_any r s p a2 n n P Q (some ⟨B3, 0, none⟩) true pn dl rd jn nj PJ QJ w3 (by omega) (by omega) Hn2.out HP3.out HN3.out).mono ?_
      rintro e w4 ⟨a4, np4, rfl, hn4, hP4, hN4, hb4⟩
      have HP4 : Hid (Prs .i32 w4 0 a4 n P Q) := hP4
      have HN4 : Hid (NodesR w4 np4 true pn dl rd jn nj PJ QJ) := hN4
      have Hn4 : Hid (a4 = none → n = 0 ∧ n = 0) := fun e => ⟨hn4 e, hn4 e⟩
      have HP3' : Hid (Prs .i32 w4 0 a2 n P Q) := HP3.out.below hb4
      have HN3' : Hid (NodesR w4 (some ⟨B3, 0, none⟩) true pn dl rd jn nj PJ QJ) := HN3.out.below hb4
      have hbel4 : Below w.heap.size w w4 := hbel3.trans (hb4.mono hbel3.size)
      clear hP4 hN4 hn4 hb4 HP3 HN3 hbel3
      by_cases hg : r + s + p < x
      · skip
        obtain ⟨q1, q2, q3, q4, q5, q6, q7⟩ := HGr.out hg
        obtain ⟨g0, g1⟩ := base_bd (pn := pn) (jn := rd) (by omega) q2 q3 q4
        obtain ⟨rm, hrm⟩ : ∃ rm : Int, rd * pn = rm := ⟨_, rfl⟩
        rw [hrm] at g0 g1 q7
        obtain ⟨base, hbs⟩ : ∃ base : Int, jn * pn = base := ⟨_, rfl⟩
        have HRM : Hid (rd * pn = rm) := hrm
        have HBS : Hid (jn * pn = base) := hbs
        obtain ⟨m, hm⟩ : ∃ m, fit true rm r s (x - r - s) = m := ⟨_, rfl⟩
        obtain ⟨m0, m1⟩ : 0 ≤ m ∧ m ≤ x - r - s := by rw [← hm]; exact fit_bd (by omega) (fun h => by first | exact q7 | cases h)
        have HM : Hid (fit true rm r s (x - r - s) = m) := hm
        obtain ⟨u, hu⟩ : ∃ u, u = x - r - s - m := ⟨_, rfl⟩
        have HU : Hid (u = x - r - s - m) := hu
        obtain ⟨k, hk⟩ : ∃ k, askd true pn base u = k := ⟨_, rfl⟩
        have HK : Hid (askd true pn base u = k) := hk
        obtain ⟨n2, hn2⟩ : ∃ n2, cnt n m = n2 := ⟨_, rfl⟩
        have HC : Hid (cnt n m = n2) := hn2
        obtain ⟨nj2, hnj2⟩ : ∃ nj2, cnt nj k = nj2 := ⟨_, rfl⟩
        have HCJ : Hid (cnt nj k = nj2) := hnj2
        clear hm hu hk hn2 hnj2 hrm hbs HSh
        go_wp2_with fail
        refine (zzgrow n n nj n2 nj2 a4 r s p t x m k rm base u P Q np4 true pn dl rd jn PJ QJ w4 (by omega) (by omega) r0 s0 p0 hsum hg hx.2 (fun _ => ⟨HRM.out, g0, g1, q7⟩) (fun _ => ⟨HBS.out, q1, q2, q5, q6⟩) HM.out HU.out HK.out HC.out HCJ.out Hn4.out HP4.out HN4.out).mono ?_
        rintro e w5 ⟨a5, np5, rfl, hP5, hN5, hb5⟩
        have HP5 : Hid (Prs .i32 w5 0 a5 n2 (upd P n t) (upd Q n m)) := hP5
        have HN5 : Hid (NodesR w5 np5 true pn dl rd (jn + k) nj2 (upd PJ nj t) (upd QJ nj k)) := hN5
        have HP3'' : Hid (Prs .i32 w5 0 a2 n P Q) := HP3'.out.below hb5
        have HN3'' : Hid (NodesR w5 (some ⟨B3, 0, none⟩) true pn dl rd jn nj PJ QJ) := HN3'.out.below hb5
        have hbel5 : Below w.heap.size w w5 := hbel4.trans (hb5.mono hbel4.size)
        clear hP5 hN5 hb5 HP3' HN3' HP4 HN4 hbel4 Hn2 Hn4
        go_wp2_with fail
        generalize hw6 : World.alloc w5 _ = w6
        have hA6 : PodsBlk w6 w5.heap.size 46 r (s + m) u a5 n2 n2 np5 := by rw [← hw6]; exact PodsBlk.new w5 46 r (s + m) u a5 n2 n2 np5
        have hb6 : Below w5.heap.size w5 w6 := by rw [← hw6]; exact (Below.refl _ _).alloc (Nat.le_refl _) _
        have hbel6 : Below w.heap.size w w6 := hbel5.trans (hb6.mono hbel5.size)
        refine (grown_true n n nj n2 nj2 n2 w5.heap.size a2 a5 r s p t x m k rm base u P Q (some ⟨B3, 0, none⟩) np5 true rfl pn dl rd jn PJ QJ w6 (by omega) (by omega) r0 s0 p0 hsum hg hx.2 HRM.out g0 g1 q7 HBS.out q1 q2 q5 q6 HM.out HU.out (by have := HK.out; simpa [askd] using this) HC.out HCJ.out (HP3''.out.below hb6) (HP5.out.below hb6) hA6 (HN3''.out.below hb6) (HN5.out.below hb6)).mono ?_
        rintro e w7 ⟨rfl, hb7⟩
        clear hw6
        go_wp2
        go_ret
        exact ⟨rfl, hbel6.trans (hb7.mono hbel6.size)⟩
      · have hxe : x ≤ r + s + p := by omega
        obtain ⟨hpos, hsm⟩ := HSh.out hxe
        have HPos : Hid (∀ j, j < n → 0 < Q j) := hpos
        have HSm : Hid (Shr.sm Q n = s) := hsm
        clear hpos hsm HSh HGr
        go_wp2_with fail
        refine (zzshr n n nj a4 r s p t x P Q np4 true pn dl rd jn PJ QJ w4 (by omega) (by omega) r0 s0 p0 x0 hsum hxe HPos.out HSm.out Hn4.out HP4.out HN4.out).mono ?_
        rintro e w5 ⟨a5, np5, m, Q', r', s', p', rfl, hP5, hN5, hS5, hmn, hb5⟩
        have HP5 : Hid (Prs .i32 w5 0 a5 m P Q') := hP5
        have HN5 : Hid (NodesR w5 np5 true pn dl rd jn nj PJ QJ) := hN5
        have HS5 : Hid (Shr.ShrP r s x n Q m Q' r' s' p') := hS5
        have HP3'' : Hid (Prs .i32 w5 0 a2 n P Q) := HP3'.out.below hb5
        have HN3'' : Hid (NodesR w5 (some ⟨B3, 0, none⟩) true pn dl rd jn nj PJ QJ) := HN3'.out.below hb5
        have hbel5 : Below w.heap.size w w5 := hbel4.trans (hb5.mono hbel4.size)
        clear hP5 hN5 hS5 hb5 HP3' HN3' HP4 HN4 hbel4 Hn2 Hn4
        go_wp2_with fail
        generalize hw6 : World.alloc w5 _ = w6
        have hA6 : PodsBlk w6 w5.heap.size 46 r' s' p' a5 m m np5 := by rw [← hw6]; exact PodsBlk.new w5 46 r' s' p' a5 m m np5
        have hb6 : Below w5.heap.size w5 w6 := by rw [← hw6]; exact (Below.refl _ _).alloc (Nat.le_refl _) _
        have hbel6 : Below w.heap.size w w6 := hbel5.trans (hb6.mono hbel5.size)
        refine (Shr.shrunk_any r s x a2 a5 n n m m w5.heap.size P Q Q' r' s' p' (some ⟨B3, 0, none⟩) np5 true pn dl rd jn nj PJ QJ w6 (by omega) (by omega) HQ.out ⟨r0, hr.2⟩ ⟨s0, hs.2⟩ ⟨x0, hx.2⟩ (HP3''.out.below hb6) (HP5.out.below hb6) hA6 (HN3''.out.below hb6) (HN5.out.below hb6) HS5.out).mono ?_
        rintro e w7 ⟨rfl, hb7⟩
        clear hw6
        go_wp2
        go_ret
        exact ⟨rfl, hbel6.trans (hb7.mono hbel6.size)⟩

end Go.Proofs.Qxb6601136aMods.ScaleLaw
