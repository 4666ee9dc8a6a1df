/- The contracts of min64, max64 and shrunkRight. -/
import Derived.Test.Qxb6601136aModsPlaceSmall
import Derived.Test.Qxb6601136aModsShrPlain
namespace Go.Proofs.Qxb6601136aMods.Shr
open Go.ChangeShapes Go.WideShapes Go.ChangeAt Go.RowKit
open Go.Proofs.Qxb6601136aMods.Mem Go.Proofs.Qxb6601136aMods.Pool Go.Proofs.Qxb6601136aMods.Pods Go.Proofs.Qxb6601136aMods.PodsBoth Go.Proofs.Qxb6601136aMods.Place
set_option linter.unusedSimpArgs false
set_option linter.unusedVariables false

theorem min_any (a b : Int) (w : World) : Calls Trym.prog 43 #[.int .i64 a, .int .i64 b] w fun e w' => e = .returned (.int .i64 (mn a b)) ∧ w' = w := by
  by_cases h : a < b
  · rw [show mn a b = a from by simp [mn, h]]
    go_enter Trym.func43, Trym.ntmps43
    go_wp2
    go_ret
    exact ⟨rfl, rfl⟩
  · rw [show mn a b = b from by simp [mn, h]]
    go_enter Trym.func43, Trym.ntmps43
    go_wp2
    go_ret
    exact ⟨rfl, rfl⟩

theorem max_any (a b : Int) (w : World) : Calls Trym.prog 44 #[.int .i64 a, .int .i64 b] w fun e w' => e = .returned (.int .i64 (mx a b)) ∧ w' = w := by
  by_cases h : b < a
  · rw [show mx a b = a from by simp [mx, h]]
    go_enter Trym.func44, Trym.ntmps44
    go_wp2
    go_ret
    exact ⟨rfl, rfl⟩
  · rw [show mx a b = b from by simp [mx, h]]
    go_enter Trym.func44, Trym.ntmps44
    go_wp2
    go_ret
    exact ⟨rfl, rfl⟩

set_option maxHeartbeats 2000000 in
set_option maxRecDepth 100000 in
/-- shrunkRight says yes to what a shrinking leaves. -/
theorem shrunk_any (r s x : Int) (a a5 : Option Addr) (n c m c5 B5 : Nat) (P Q Q' : Nat → Int) (r' s' p' : Int) (np np5 : Option Addr) (hv : Bool) (pn dl rd jn : Int) (nj : Nat) (PJ QJ : Nat → Int) (w : World) (hn : n ≤ 65536) (hnj : nj ≤ 1048576) (hq : ∀ j, j < n → -2147483648 ≤ Q j ∧ Q j ≤ 2147483647)
    (hr : 0 ≤ r ∧ r ≤ 2147483647) (hs : 0 ≤ s ∧ s ≤ 2147483647) (hx : 0 ≤ x ∧ x ≤ 2147483647) (hP : Prs .i32 w 0 a n P Q) (hP5 : Prs .i32 w 0 a5 m P Q') (hA : PodsBlk w B5 46 r' s' p' a5 m c5 np5) (hN : NodesR w np hv pn dl rd jn nj PJ QJ) (hN5 : NodesR w np5 hv pn dl rd jn nj PJ QJ) (hS : ShrP r s x n Q m Q' r' s' p') :
    Calls Trym.prog 32 #[.int .i32 r, .int .i32 s, .slice a n c, .pointer np, .int .i32 x, .int .i64 0, .pointer (some ⟨B5, 0, none⟩)] w fun e w' => e = .returned (.bool true) ∧ Below w.heap.size w w' := by
  have HP : Hid (Prs .i32 w 0 a n P Q) := hP
  have HP5 : Hid (Prs .i32 w 0 a5 m P Q') := hP5
  have HA : Hid (PodsBlk w B5 46 r' s' p' a5 m c5 np5) := hA
  have HN : Hid (NodesR w np hv pn dl rd jn nj PJ QJ) := hN
  have HN5 : Hid (NodesR w np5 hv pn dl rd jn nj PJ QJ) := hN5
  have HQ : Hid (∀ j, j < n → -2147483648 ≤ Q j ∧ Q j ≤ 2147483647) := hq
  obtain ⟨s1, s2, s3, L, hK⟩ := hS
  have HK : Hid (Kept n Q m Q' s' L) := hK
  have b1 : 0 ≤ r' ∧ r' ≤ 2147483647 := by rw [s1]; unfold mn; split <;> omega
  have b2 : 0 ≤ s' ∧ s' ≤ 2147483647 := by rw [s2]; unfold mx mn; split <;> (try split) <;> omega
  have b3 : 0 ≤ p' ∧ p' ≤ 2147483647 := by rw [s3]; unfold mx; split <;> omega
  have hmn : m ≤ n := hK.1
  have HS1 : Hid (r' = mn r x) := s1
  have HS2 : Hid (mx (mn (x - r) s) 0 = s') := s2.symm
  have HS3 : Hid (p' = mx (x - r - s) 0) := s3
  obtain ⟨b11, b12⟩ := b1
  obtain ⟨b21, b22⟩ := b2
  obtain ⟨b31, b32⟩ := b3
  obtain ⟨y0, y1, y2, y3, y4⟩ := hA.cells
  clear hP hP5 hA hN hN5 hq hK s1 s2 s3 y3 y4
  go_enter Trym.func32, Trym.ntmps32
  go_wp2
  go_quiet ((go_at_call 43; exact Calls.quiet_of_same (min_any _ _ _)))
  rw [← HS1.out]
  generalize hw1 : World.drewN w _ = w1
  have HA1 : Hid (PodsBlk w1 B5 46 r' s' p' a5 m c5 np5) := by rw [← hw1]; exact HA.out
  have hb1 : Below w.heap.size w w1 := by rw [← hw1]; exact below_drewN (Below.refl _ _) _
  have hne1 : (r' != r') = false := by simp
  clear hw1 y0 y1 y2 HA
  obtain ⟨y0, y1, y2, y3, y4⟩ := HA1.out.cells
  clear y0 y2 y3 y4
  go_wp2_with fail
  refine (min_any (x - r) s w1).mono ?_
  rintro e w1' ⟨rfl, rfl⟩
  go_wp2_with fail
  refine (max_any (mn (x - r) s) 0 w1').mono ?_
  rintro e w1 ⟨rfl, rfl⟩
  rw [HS2.out]
  have hne2 : (s' != s') = false := by simp
  have HA1' := HA1
  obtain ⟨-, -, y2, -, -⟩ := HA1.out.cells
  go_wp2
  go_quiet ((go_at_call 44; exact Calls.quiet_of_same (max_any _ _ _)))
  rw [← HS3.out]
  generalize hw2 : World.drewN w1 _ = w2
  have HA2 : Hid (PodsBlk w2 B5 46 r' s' p' a5 m c5 np5) := by rw [← hw2]; exact HA1.out
  have hb2 : Below w.heap.size w w2 := by rw [← hw2]; exact below_drewN hb1 _
  have hne3 : (p' != p') = false := by simp
  rw [hne3]
  clear hw2 y1 y2 HA1 HA1' hb1 HS1 HS2 HS3
  go_wp2
  have hL0 : L 0 = s' := HK.out.2.1
  go_loopg [19, 20, 21, 22, 23] m (fun g l kp i _ _ wr => ∃ j : Nat, j ≤ m ∧ g = m - j ∧ l = .int .i64 (L j) ∧ kp = .int .i64 j ∧ i = .int .i64 j ∧ Below w.heap.size w wr ∧ Hid (PodsBlk wr B5 46 r' s' p' a5 m c5 np5))
  case atStart => exact ⟨0, Nat.zero_le _, rfl, by rw [hL0], rfl, rfl, hb2, HA2.out⟩
  case round =>
    clear hL0 HA2 hb2 hne1 hne2 hne3
    obtain ⟨j, hj, rfl, rfl, rfl, rfl, hbel, HAr⟩ := hrel
    obtain ⟨-, -, -, y3, y4⟩ := HAr.out.cells
    by_cases hlt : j < m
    · obtain ⟨k1, k2, k3, k4⟩ := HK.out.2.2.2 j hlt
      obtain ⟨b, off, rfl, _, hbw, hc⟩ := HP.out (by omega)
      obtain ⟨b5, o5, rfl, _, hb5, hc5⟩ := HP5.out (by omega)
      obtain ⟨q0, q1⟩ := HQ.out j (by omega)
      have hmn' : mn (Q j) (L j) = Q' j := by
        unfold mn
        rcases k4 with ⟨h1, h2⟩ | ⟨h1, h2⟩
        · rw [if_pos h1, h2]
        · rw [if_neg (by omega), h2]
      have q2 : 0 ≤ Q' j + 2147483648 ∧ Q' j ≤ 2147483647 ∧ Q' j ≤ L j := by
        rcases k4 with ⟨h1, h2⟩ | ⟨h1, h2⟩ <;> omega
      obtain ⟨l, hl⟩ : ∃ l, L j = l := ⟨_, rfl⟩
      obtain ⟨l2, hl2⟩ : ∃ l2, L (j + 1) = l2 := ⟨_, rfl⟩
      obtain ⟨q, hqe⟩ : ∃ q, Q j = q := ⟨_, rfl⟩
      obtain ⟨q', hqe'⟩ : ∃ q', Q' j = q' := ⟨_, rfl⟩
      obtain ⟨u, hu⟩ : ∃ u, P j = u := ⟨_, rfl⟩
      rw [hl] at k1 k2 k3 hmn' q2 ⊢
      rw [hl2] at k3
      rw [hqe] at q0 q1 hmn'
      rw [hqe'] at k3 hmn' q2
      have g1 : wr.cell? ⟨b, off + j * 2, none⟩ = some (.int .i64 u) := by rw [← hu]; exact (hbel.cell (p := ⟨b, off + j * 2, none⟩) hbw).trans (hc j (by omega)).1
      have g2 : wr.cell? ⟨b, off + (j * 2 + 1), none⟩ = some (.int .i32 q) := by rw [← hqe]; exact (hbel.cell (p := ⟨b, off + (j * 2 + 1), none⟩) hbw).trans (hc j (by omega)).2
      have g2' : wr.cell? ⟨b, off + j * 2 + 1, none⟩ = some (.int .i32 q) := g2
      have g3 : wr.cell? ⟨b5, o5 + j * 2, none⟩ = some (.int .i64 u) := by rw [← hu]; exact (hbel.cell (p := ⟨b5, o5 + j * 2, none⟩) hb5).trans (hc5 j hlt).1
      have g4 : wr.cell? ⟨b5, o5 + (j * 2 + 1), none⟩ = some (.int .i32 q') := by rw [← hqe']; exact (hbel.cell (p := ⟨b5, o5 + (j * 2 + 1), none⟩) hb5).trans (hc5 j hlt).2
      have g4' : wr.cell? ⟨b5, o5 + j * 2 + 1, none⟩ = some (.int .i32 q') := g4
      have i1 : (j : Int) < (n : Int) := by omega
      have i2 : (j : Int) < (m : Int) := by omega
      have hbr : b < wr.heap.size := Nat.lt_of_lt_of_le hbw hbel.size
      have HM : Hid (mn q l = q') := hmn'
      have HL : Hid (L (j + 1) = l2 ∧ l2 = l - q') := ⟨hl2, k3⟩
      obtain ⟨q20, q21, q22⟩ := q2
      clear hc hc5 k4 hmn' hl2 hl hqe hqe' hu k3 y4
      go_wp2_with fail
      refine (min_any q l wr).mono ?_
      rintro e wr' ⟨rfl, rfl⟩
      rw [HM.out]
      go_wp2
      generalize hw5 : World.alloc wr' _ = w5
      have v1 : w5.cell? ⟨wr'.heap.size, 0, none⟩ = some (.int .i64 u) := by rw [← hw5]; simp
      have v2 : w5.cell? ⟨wr'.heap.size, 1, none⟩ = some (.int .i32 q') := by rw [← hw5]; simp
      have v3 : w5.cell? ⟨b, off + j * 2, none⟩ = some (.int .i64 u) := by rw [← hw5]; exact (((Below.refl _ wr').alloc (Nat.le_refl _) _).cell (p := ⟨b, off + j * 2, none⟩) hbr).trans g1
      have hb5' : Below w.heap.size w w5 := by rw [← hw5]; exact hbel.alloc hbel.size _
      have HA5 : Hid (PodsBlk w5 B5 46 r' s' p' (some ⟨b5, o5, none⟩) m c5 np5) := by rw [← hw5]; exact HAr.out.alloc _
      have e1 : (u != u) = false := by simp
      have e2 : (q' != q') = false := by simp
      clear hw5 g1 g2 g2' g3 g4 g4' y3 hbel HAr
      go_quiet (fail)
      go_wp2
      go_roundg (m - (j + 1))
      case measure => omega
      case rel => exact ⟨j + 1, by omega, rfl, by rw [HL.out.1, HL.out.2], by go_num, by go_num, below_drewN hb5' _, HA5.out⟩
    · obtain rfl : j = m := by omega
      have hLm : L j = 0 := HK.out.2.2.1
      rw [hLm]
      clear hLm
      by_cases hjn : j < n
      · have i1 : (j : Int) < (n : Int) := by omega
        go_wp2_with fail
        refine (same_any np5 np hv nj pn dl rd jn PJ QJ wr hnj (HN5.out.below hbel) (HN.out.below hbel)).mono ?_
        rintro e w9 ⟨rfl, hb9⟩
        go_wp2
        go_ret
        exact ⟨rfl, hbel.trans (hb9.mono hbel.size)⟩
      · go_wp2_with fail
        refine (same_any np5 np hv nj pn dl rd jn PJ QJ wr hnj (HN5.out.below hbel) (HN.out.below hbel)).mono ?_
        rintro e w9 ⟨rfl, hb9⟩
        go_wp2
        go_ret
        exact ⟨rfl, hbel.trans (hb9.mono hbel.size)⟩

end Go.Proofs.Qxb6601136aMods.Shr
