/- ZZScaleTo, growing and shrinking. -/
import Derived.Test.Qxb6601136aModsGr
import Derived.Test.Qxb6601136aModsShrWalk
import Derived.Test.Qxb6601136aModsPlaceSmall
namespace Go.Proofs.Qxb6601136aMods.Gr
open Go.ChangeShapes Go.WideShapes Go.ChangeAt Go.RowKit
open Go.Proofs.Qxb6601136aMods.Mem Go.Proofs.Qxb6601136aMods.Pool Go.Proofs.Qxb6601136aMods.Grow Go.Proofs.Qxb6601136aMods.Pods Go.Proofs.Qxb6601136aMods.Conv Go.Proofs.Qxb6601136aMods.PodsBoth Go.Proofs.Qxb6601136aMods.Place
set_option linter.unusedSimpArgs false
set_option linter.unusedVariables false

set_option maxHeartbeats 1000000 in
set_option maxRecDepth 100000 in
/-- ZZScaleTo where it grows. -/
theorem zzgrow (n c nj n2 nj2 : Nat) (a : Option Addr) (r s p t x m k rm base u : Int) (P Q : Nat → Int) (np : Option Addr) (hv : Bool) (pn dl rd jn : Int) (PJ QJ : Nat → Int) (w : World) (hn : n ≤ 65536) (hlenj1 : nj ≤ 1048575) (hr0 : 0 ≤ r) (hs0 : 0 ≤ s) (hp0 : 0 ≤ p) (hsum : r + s + p ≤ 2147483647) (hx : r + s + p < x) (hx1 : x ≤ 2147483647)
    (hrm : hv = true → rd * pn = rm ∧ 0 ≤ rm ∧ rm ≤ 9223372032559808512 ∧ r + s ≤ rm) (hbs : hv = true → jn * pn = base ∧ 1 ≤ pn ∧ pn ≤ 2147483647 ∧ 0 ≤ jn ∧ jn ≤ 4294967296) (hm : fit hv rm r s (x - r - s) = m) (hu : u = x - r - s - m) (hk : askd hv pn base u = k) (hn2 : cnt n m = n2) (hnj2 : cnt nj k = nj2)
    (hnil : a = none → n = 0 ∧ c = 0) (hP : Prs .i32 w 0 a n P Q) (hN : NodesR w np hv pn dl rd jn nj PJ QJ) :
    Calls Trym.prog 30 #[.agg #[.int .i32 r, .int .i32 s, .int .i32 p, .slice a n c, .pointer np], .int .i64 t, .int .i32 x] w fun e w' => ∃ a' np',
      e = .returned (.tuple #[.int .i64 k, .agg #[.int .i32 r, .int .i32 (s + m), .int .i32 u, .slice a' n2 n2, .pointer np']]) ∧
      Prs .i32 w' 0 a' n2 (upd P n t) (upd Q n m) ∧ NodesR w' np' hv pn dl rd (jn + k) nj2 (upd PJ nj t) (upd QJ nj k) ∧ Below w.heap.size w w' := by
  have HP : Hid (Prs .i32 w 0 a n P Q) := hP
  have HN : Hid (NodesR w np hv pn dl rd jn nj PJ QJ) := hN
  have Hnil : Hid (a = none → n = 0 ∧ c = 0) := hnil
  have hcn : n2 ≤ 1048576 := by rw [← hn2]; unfold cnt; split <;> omega
  have hcnj : nj2 ≤ 1048576 := by rw [← hnj2]; unfold cnt; split <;> omega
  have hlenj : nj ≤ 1048576 := by omega
  have HRM : Hid (hv = true → rd * pn = rm ∧ 0 ≤ rm ∧ rm ≤ 9223372032559808512 ∧ r + s ≤ rm) := hrm
  have HBS : Hid (hv = true → jn * pn = base ∧ 1 ≤ pn ∧ pn ≤ 2147483647 ∧ 0 ≤ jn ∧ jn ≤ 4294967296) := hbs
  have HM : Hid (fit hv rm r s (x - r - s) = m) := hm
  have HU : Hid (u = x - r - s - m) := hu
  have HK : Hid (askd hv pn base u = k) := hk
  have HN2 : Hid (cnt n m = n2) := hn2
  have HNJ2 : Hid (cnt nj k = nj2) := hnj2
  clear hP hN hnil hrm hbs hm hu hk hn2 hnj2
  go_enter Trym.func30, Trym.ntmps30
  go_wp2_with fail
  refine (PodsBoth.pin_any r s p a n c P Q np hv pn dl rd jn nj PJ QJ _ (by omega) hlenj Hnil.out ((HP.out.alloc _).alloc _) ((HN.out.below ((Below.refl _ _).alloc (Nat.le_refl _) _)).below ((Below.refl _ _).alloc (Nat.le_refl _) _))).mono ?_
  rintro e w1 ⟨Bp, np1, rfl, hS1, hb1⟩
  have HR1 : Hid (PodsBlk w1 (w.heap.size + 1) 46 0 0 0 none 0 0 none) := by
    have := (PodsBlk.new (w.alloc (.cells #[.int .i32 r, .int .i32 s, .int .i32 p, .slice a n c, .pointer np] 46)) 46 0 0 0 none 0 0 none).below hb1
    rw [World.size_alloc] at this
    exact this
  have HS1 : Hid (PodsSt w1 (w.heap.size + 2) Bp r s p n P Q np1 hv pn dl rd jn nj PJ QJ) := by
    simp only [World.size_alloc] at hS1
    exact hS1
  have hbel1 : Below w.heap.size w w1 := (by go_grown : Below w.heap.size w _).trans (hb1.mono (by simp; omega))
  clear hS1 hb1 HP HN
  have hlo1 : w.heap.size + 2 ≤ w1.heap.size := HR1.out.lt
  go_wp2_with fail
  refine (grow_any (w.heap.size + 2) Bp n nj n2 nj2 r s p t x m k rm base u P Q np1 hv pn dl rd jn PJ QJ w1 hn hlenj1 hlo1 hr0 hs0 hp0 hsum hx hx1 HRM.out HBS.out HM.out HU.out HK.out HN2.out HNJ2.out HS1.out).mono ?_
  rintro e w2 ⟨rfl, hS2, hb2⟩
  have HS2 : Hid (PodsR w2 Bp r (s + m) u n2 (upd P n t) (upd Q n m) np1 hv pn dl rd (jn + k) nj2 (upd PJ nj t) (upd QJ nj k)) := hS2
  have HR2 : Hid (PodsBlk w2 (w.heap.size + 1) 46 0 0 0 none 0 0 none) := HR1.out.block (hb2.block _ (by omega))
  have hbel2 : Below w.heap.size w w2 := hbel1.trans (hb2.mono (by omega))
  clear hS2 hb2 HR1 HS1 hbel1 HRM HBS HM HU HK HN2 HNJ2
  go_wp2_with fail
  refine (PodsBoth.pout_any Bp r (s + m) u n2 (upd P n t) (upd Q n m) np1 hv pn dl rd (jn + k) nj2 (upd PJ nj t) (upd QJ nj k) _ hcn hcnj HS2.out).mono ?_
  rintro e w3 ⟨a3, np3, rfl, hn3, hP3, hN3, hb3⟩
  have hR3 := HR2.out.below hb3
  have hlt2 := HR2.out.lt
  have HP3 : Hid (Prs .i32 w3 (w.heap.size + 1 + 1) a3 n2 (upd P n t) (upd Q n m)) := hP3.mono hlt2
  have HN3 : Hid (Nodes w3 (w.heap.size + 1 + 1) 27 np3 hv pn dl rd (jn + k) nj2 (upd PJ nj t) (upd QJ nj k)) := hN3.mono hlt2
  have hbel3 : Below w.heap.size w w3 := hbel2.trans (hb3.mono hbel2.size)
  obtain ⟨c0, c1, c2, c3, c4⟩ := hR3.cells
  have fr := hR3.frozen
  have HR3 : Hid (PodsBlk w3 (w.heap.size + 1) 46 0 0 0 none 0 0 none) := hR3
  clear hR3 hP3 hN3 hb3 HR2 HS2 hbel2 hn3
  go_wp2
  obtain ⟨W5, hW5, hB5, hs5, hk5, hb5⟩ := stored5 r (s + m) u a3 n2 n2 np3 HR3.out
  rw [← hW5]
  obtain ⟨q0, q1, q2, q3, q4⟩ := hB5.cells
  have hsz := HR3.out.lt
  refine bodyPost_ret (v := .tuple #[.int .i64 k, .agg #[.int .i32 r, .int .i32 (s + m), .int .i32 u, .slice a3 n2 n2, .pointer np3]]) (by simp [results, Trym.results30, go_sem, q0, q1, q2, q3, q4]) rfl ?_
  exact ⟨a3, np3, rfl, (HP3.out.block (fun b hb _ => hk5 b (by omega)) (by omega)).mono (Nat.zero_le _), (nodes_kept HN3.out (fun b hb _ => hk5 b (by omega)) (by omega)).toR, hb5 w hbel3 (Nat.le_succ _)⟩

set_option maxHeartbeats 1000000 in
set_option maxRecDepth 100000 in
/-- ZZScaleTo where it shrinks. -/
theorem zzshr (n c nj : Nat) (a : Option Addr) (r s p t x : Int) (P Q : Nat → Int) (np : Option Addr) (hv : Bool) (pn dl rd jn : Int) (PJ QJ : Nat → Int) (w : World) (hn : n ≤ 65536) (hlenj : nj ≤ 1048576) (hr0 : 0 ≤ r) (hs0 : 0 ≤ s) (hp0 : 0 ≤ p) (hx0 : 0 ≤ x) (hsum : r + s + p ≤ 2147483647) (hxe : x ≤ r + s + p)
    (hpos : ∀ j, j < n → 0 < Q j) (hsm : Shr.sm Q n = s) (hnil : a = none → n = 0 ∧ c = 0) (hP : Prs .i32 w 0 a n P Q) (hN : NodesR w np hv pn dl rd jn nj PJ QJ) :
    Calls Trym.prog 30 #[.agg #[.int .i32 r, .int .i32 s, .int .i32 p, .slice a n c, .pointer np], .int .i64 t, .int .i32 x] w fun e w' => ∃ a' np' m Q' r' s' p',
      e = .returned (.tuple #[.int .i64 0, .agg #[.int .i32 r', .int .i32 s', .int .i32 p', .slice a' m m, .pointer np']]) ∧
      Prs .i32 w' 0 a' m P Q' ∧ NodesR w' np' hv pn dl rd jn nj PJ QJ ∧ Shr.ShrP r s x n Q m Q' r' s' p' ∧ m ≤ n ∧ Below w.heap.size w w' := by
  have HP : Hid (Prs .i32 w 0 a n P Q) := hP
  have HN : Hid (NodesR w np hv pn dl rd jn nj PJ QJ) := hN
  have Hnil : Hid (a = none → n = 0 ∧ c = 0) := hnil
  have HQ : Hid (∀ j, j < n → 0 < Q j) := hpos
  have HSm : Hid (Shr.sm Q n = s) := hsm
  clear hP hN hnil hpos hsm
  go_enter Trym.func30, Trym.ntmps30
  go_wp2_with fail
  refine (Pin2.pin_any r s p a n c P Q np hv pn dl rd jn nj PJ QJ _ (by omega) hlenj Hnil.out ((HP.out.alloc _).alloc _) ((HN.out.below ((Below.refl _ _).alloc (Nat.le_refl _) _)).below ((Below.refl _ _).alloc (Nat.le_refl _) _))).mono ?_
  rintro e w1 ⟨Bp, np1, a1, N1, rfl, hl1, hB1, hC1, hX1, hb1⟩
  have HR1 : Hid (PodsBlk w1 (w.heap.size + 1) 46 0 0 0 none 0 0 none) := by
    have := (PodsBlk.new (w.alloc (.cells #[.int .i32 r, .int .i32 s, .int .i32 p, .slice a n c, .pointer np] 46)) 46 0 0 0 none 0 0 none).below hb1
    rw [World.size_alloc] at this
    exact this
  have HS1 : Hid (w.heap.size + 2 ≤ Bp ∧ PodsBlk w1 Bp 88 r s p a1 n n np1 ∧ Pin2.Coh w1 (w.heap.size + 2) Bp N1 n n a1 P Q ∧ Pin2.PoolX w1 (w.heap.size + 2) Bp N1 np1 hv pn dl rd jn nj PJ QJ) := by
    simp only [World.size_alloc] at hl1 hC1 hX1
    exact ⟨hl1, hB1, hC1, hX1⟩
  have hbel1 : Below w.heap.size w w1 := (by go_grown : Below w.heap.size w _).trans (hb1.mono (by simp; omega))
  clear hl1 hB1 hC1 hX1 hb1 HP HN
  have hlo1 : w.heap.size + 2 ≤ w1.heap.size := HR1.out.lt
  go_wp2_with fail
  refine (Shr.shr_any (w.heap.size + 2) Bp N1 n a1 r s p t x P Q np1 hv pn dl rd jn nj PJ QJ w1 hn HS1.out.1 hr0 hs0 hp0 hx0 hsum hxe HQ.out HSm.out HS1.out.2.1 HS1.out.2.2.1 HS1.out.2.2.2).mono ?_
  rintro e w2 ⟨m, Q', r', s', p', rfl, hS2, hshr, hmn, hb2⟩
  have HS2 : Hid (PodsR w2 Bp r' s' p' m P Q' np1 hv pn dl rd jn nj PJ QJ) := hS2
  have HSh : Hid (Shr.ShrP r s x n Q m Q' r' s' p') := hshr
  have HR2 : Hid (PodsBlk w2 (w.heap.size + 1) 46 0 0 0 none 0 0 none) := HR1.out.block (hb2.block _ (by omega))
  have hbel2 : Below w.heap.size w w2 := hbel1.trans (hb2.mono (by omega))
  clear hS2 hb2 HR1 HS1 hbel1 HQ HSm hshr
  go_wp2_with fail
  refine (PodsBoth.pout_any Bp r' s' p' m P Q' np1 hv pn dl rd jn nj PJ QJ _ (by omega) hlenj HS2.out).mono ?_
  rintro e w3 ⟨a3, np3, rfl, hn3, hP3, hN3, hb3⟩
  have hR3 := HR2.out.below hb3
  have hlt2 := HR2.out.lt
  have HP3 : Hid (Prs .i32 w3 (w.heap.size + 1 + 1) a3 m P Q') := hP3.mono hlt2
  have HN3 : Hid (Nodes w3 (w.heap.size + 1 + 1) 27 np3 hv pn dl rd jn nj PJ QJ) := hN3.mono hlt2
  have hbel3 : Below w.heap.size w w3 := hbel2.trans (hb3.mono hbel2.size)
  obtain ⟨c0, c1, c2, c3, c4⟩ := hR3.cells
  have fr := hR3.frozen
  have HR3 : Hid (PodsBlk w3 (w.heap.size + 1) 46 0 0 0 none 0 0 none) := hR3
  clear hR3 hP3 hN3 hb3 HR2 HS2 hbel2 hn3
  go_wp2
  obtain ⟨W5, hW5, hB5, hs5, hk5, hb5⟩ := stored5 r' s' p' a3 m m np3 HR3.out
  rw [← hW5]
  obtain ⟨q0, q1, q2, q3, q4⟩ := hB5.cells
  have hsz := HR3.out.lt
  refine bodyPost_ret (v := .tuple #[.int .i64 0, .agg #[.int .i32 r', .int .i32 s', .int .i32 p', .slice a3 m m, .pointer np3]]) (by simp [results, Trym.results30, go_sem, q0, q1, q2, q3, q4]) rfl ?_
  exact ⟨a3, np3, m, Q', r', s', p', rfl, (HP3.out.block (fun b hb _ => hk5 b (by omega)) (by omega)).mono (Nat.zero_le _), (nodes_kept HN3.out (fun b hb _ => hk5 b (by omega)) (by omega)).toR, HSh.out, hmn, hb5 w hbel3 (Nat.le_succ _)⟩

end Go.Proofs.Qxb6601136aMods.Gr
