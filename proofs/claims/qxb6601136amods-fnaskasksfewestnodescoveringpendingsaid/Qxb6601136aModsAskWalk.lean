/- THE WALK of FnAskAsksFewestNodesCoveringPending. -/
import Derived.Test.Qxb6601136aModsAsk
namespace Go.Proofs.Qxb6601136aMods.Ask
open Go.ChangeShapes Go.WideShapes Go.ChangeAt Go.RowKit
open Go.Proofs.Qxb6601136aMods.Mem Go.Proofs.Qxb6601136aMods.Pool Go.Proofs.Qxb6601136aMods.Grow
set_option linter.unusedSimpArgs false
set_option linter.unusedVariables false

theorem bytes_big (a : Option Addr) (n c : Nat) (pn dl rd jn t p : Int) (w : World) (h : 1048576 < n) (hm : n ≤ 9223372036854775807) :
    Calls Trym.prog 9 #[.int .i64 pn, .int .i64 dl, .int .i64 rd, .slice a n c, .int .i64 jn, .int .i64 t, .int .i32 p] w fun e w' => e = .returned (.bool false) ∧ w = w' := by
  go_enter Trym.func9, Trym.ntmps9
  go_wp2
  go_ret
  exact ⟨rfl, rfl⟩

theorem bytes_ok (a : Option Addr) (n c : Nat) (pn dl rd jn t p : Int) (w : World) (h : n ≤ 1048576) :
    Calls Trym.prog 9 #[.int .i64 pn, .int .i64 dl, .int .i64 rd, .slice a n c, .int .i64 jn, .int .i64 t, .int .i32 p] w fun e w' => e = .returned (.bool true) ∧ w = w' := by
  go_enter Trym.func9, Trym.ntmps9
  go_wp2
  go_ret
  exact ⟨rfl, rfl⟩

theorem walk_big (a : Option Addr) (n c : Nat) (pn dl rd jn t p : Int) (w : World) (h : 1048576 < n) (hm : n ≤ 9223372036854775807) :
    Calls Trym.prog 3 #[.int .i64 pn, .int .i64 dl, .int .i64 rd, .slice a n c, .int .i64 jn, .int .i64 t, .int .i32 p] w fun e w' => e = .returned (.bool true) ∧ w' = w := by
  go_enter Trym.func3, Trym.ntmps3
  go_wp2_with (go_at_call 9; refine (bytes_big _ _ _ _ _ _ _ _ _ _ h hm).mono ?_; rintro e w' ⟨rfl, rfl⟩)
  go_ret
  exact ⟨rfl, rfl⟩

theorem walk_out (a : Option Addr) (n c : Nat) (pn dl rd jn t p : Int) (w : World) (hm : n ≤ 1048576) (h : 65536 < n ∨ pn < 1 ∨ 2147483647 < pn ∨ jn < 0 ∨ 4294967296 < jn) :
    Calls Trym.prog 3 #[.int .i64 pn, .int .i64 dl, .int .i64 rd, .slice a n c, .int .i64 jn, .int .i64 t, .int .i32 p] w fun e w' => e = .returned (.bool true) ∧ w' = w := by
  by_cases c1 : 65536 < n
  · go_enter Trym.func3, Trym.ntmps3
    go_wp2_with (go_at_call 9; refine (bytes_ok _ _ _ _ _ _ _ _ _ _ hm).mono ?_; rintro e w' ⟨rfl, rfl⟩)
    go_ret
    exact ⟨rfl, rfl⟩
  · by_cases c2 : pn < 1
    · have c2' : decide (pn < 1) = true := by simpa using c2
      go_enter Trym.func3, Trym.ntmps3
      go_wp2_with (go_at_call 9; refine (bytes_ok _ _ _ _ _ _ _ _ _ _ hm).mono ?_; rintro e w' ⟨rfl, rfl⟩)
      go_ret
      exact ⟨rfl, rfl⟩
    · have c2' : decide (pn < 1) = false := by simpa using c2
      by_cases c3 : 2147483647 < pn
      · go_enter Trym.func3, Trym.ntmps3
        go_wp2_with (go_at_call 9; refine (bytes_ok _ _ _ _ _ _ _ _ _ _ hm).mono ?_; rintro e w' ⟨rfl, rfl⟩)
        go_ret
        exact ⟨rfl, rfl⟩
      · by_cases c4 : jn < 0
        · have c4' : decide (jn < 0) = true := by simpa using c4
          go_enter Trym.func3, Trym.ntmps3
          go_wp2_with (go_at_call 9; refine (bytes_ok _ _ _ _ _ _ _ _ _ _ hm).mono ?_; rintro e w' ⟨rfl, rfl⟩)
          go_ret
          exact ⟨rfl, rfl⟩
        · have c4' : decide (jn < 0) = false := by simpa using c4
          have c5 : 4294967296 < jn := by omega
          go_enter Trym.func3, Trym.ntmps3
          go_wp2_with (go_at_call 9; refine (bytes_ok _ _ _ _ _ _ _ _ _ _ hm).mono ?_; rintro e w' ⟨rfl, rfl⟩)
          go_ret
          exact ⟨rfl, rfl⟩

set_option maxHeartbeats 2000000 in
set_option maxRecDepth 100000 in
theorem walk_in (a : Option Addr) (n c : Nat) (pn dl rd jn t p base : Int) (P Q : Nat → Int) (w : World) (hn : n ≤ 65536) (hnil : a = none → n = 0 ∧ c = 0) (hP : Prs .i64 w 0 a n P Q)
    (hpn : 1 ≤ pn) (hpn1 : pn ≤ 2147483647) (hjn : 0 ≤ jn) (hjn1 : jn ≤ 4294967296) (hb : jn * pn = base) (hp : -2147483648 ≤ p) (hp1 : p ≤ 2147483647) :
    Calls Trym.prog 3 #[.int .i64 pn, .int .i64 dl, .int .i64 rd, .slice a n c, .int .i64 jn, .int .i64 t, .int .i32 p] w fun e w' => e = .returned (.bool true) ∧ Below w.heap.size w w' := by
  obtain ⟨hb0, hb1⟩ := base_bd (pn := pn) (jn := jn) (by omega) hpn1 hjn hjn1
  rw [hb] at hb0 hb1
  have HP : Hid (Prs .i64 w 0 a n P Q) := hP
  have HN : Hid (a = none → n = 0 ∧ c = 0) := hnil
  have HBs : Hid (jn * pn = base) := hb
  clear hP hnil hb
  have d1 : decide (pn < 1) = false := by simp; omega
  have d2 : decide (jn < 0) = false := by simp; omega
  by_cases hpb : p ≤ base
  · have HC : ∀ w, Calls Trym.prog 13 #[.int .i64 pn, .int .i64 jn, .int .i64 p, .int .i64 0] w fun e w' => e = .returned (.bool true) ∧ w = w' := fun w => by
      have := cover_any pn jn p base w hpn hpn1 HBs.out hb0 hb1 hp hp1
      rw [need_zero hpb] at this
      exact this
    have HC := (show Hid _ from HC)
    go_enter Trym.func3, Trym.ntmps3
    go_wp2_with (go_at_call 9; refine (bytes_ok _ _ _ _ _ _ _ _ _ _ (by omega)).mono ?_; rintro e w' ⟨rfl, rfl⟩)
    refine (cr_any a n c P Q w (by omega) HN.out HP.out).mono ?_
    rintro e w1 ⟨a1, rfl, hn1, hP1, hb1'⟩
    have HP1 : Hid (Prs .i64 w1 0 a1 n P Q) := hP1.mono (Nat.zero_le _)
    have HN1 : Hid (a1 = none → n = 0 ∧ n = 0) := fun h => ⟨hn1 h, hn1 h⟩
    clear hP1 hn1 HP HN
    go_wp2_with fail
    refine (zr_any a1 n n P Q w1 (by omega) HN1.out HP1.out).mono ?_
    rintro e w2 ⟨a2, rfl, hn2, hP2, hb2⟩
    have HP2 : Hid (Prs .i64 w2 0 a2 n P Q) := hP2.mono (Nat.zero_le _)
    have HN2 : Hid (a2 = none → n = 0 ∧ n = 0) := fun h => ⟨hn2 h, hn2 h⟩
    have HP1' : Hid (Prs .i64 w2 0 a1 n P Q) := HP1.out.below hb2
    have hbel2 : Below w.heap.size w w2 := hb1'.trans (hb2.mono hb1'.size)
    clear hP2 hn2 hb1' hb2 HP1 HN1
    go_wp2_with fail
    refine (zzask_any n n a2 pn dl rd jn t p base P Q w2 hn HN2.out HP2.out hpn hpn1 hjn hjn1 HBs.out hp hp1).mono ?_
    rintro e w3 ⟨h3, h3'⟩
    obtain ⟨a3, rfl, hP3, hb3⟩ := h3 hpb
    have HP3 : Hid (Prs .i64 w3 0 a3 n P Q) := hP3
    have HP1'' : Hid (Prs .i64 w3 0 a1 n P Q) := HP1'.out.below hb3
    have hbel3 : Below w.heap.size w w3 := hbel2.trans (hb3.mono hbel2.size)
    clear hP3 h3 h3' hbel2 hb3 HP2 HP1' HN2
    go_wp2_with fail
    refine (HC.out _).mono ?_
    rintro e w4 ⟨rfl, rfl⟩
    go_wp2_with fail
    refine (joined_same a3 a1 n n n P Q t _ (by omega) (HP3.out.alloc _) (HP1''.out.alloc _)).mono ?_
    rintro e w5 ⟨rfl, hb5⟩
    have hbel5 : Below w.heap.size w w5 := (hbel3.alloc hbel3.size _).trans (hb5.mono (by simp; have := hbel3.size; omega))
    go_wp2
    go_ret
    exact ⟨rfl, hbel5⟩
  · have hpb' : base < p := by omega
    clear hpb
    obtain ⟨k, hk⟩ : ∃ k, k = need pn base p := ⟨_, rfl⟩
    have HK : Hid (k = need pn base p) := hk
    have kb : 1 ≤ k ∧ k ≤ 2147483648 := by
      have := need_pos (pn := pn) (base := base) (p := p) hpn hpb'
      rw [← hk] at this
      omega
    obtain ⟨kb1, kb2⟩ := kb
    clear hk
    have HC : ∀ w, Calls Trym.prog 13 #[.int .i64 pn, .int .i64 jn, .int .i64 p, .int .i64 k] w fun e w' => e = .returned (.bool true) ∧ w = w' := fun w => by
      have := cover_any pn jn p base w hpn hpn1 HBs.out hb0 hb1 hp hp1
      rw [← HK.out] at this
      exact this
    have HC := (show Hid _ from HC)
    go_enter Trym.func3, Trym.ntmps3
    go_wp2_with (go_at_call 9; refine (bytes_ok _ _ _ _ _ _ _ _ _ _ (by omega)).mono ?_; rintro e w' ⟨rfl, rfl⟩)
    refine (cr_any a n c P Q w (by omega) HN.out HP.out).mono ?_
    rintro e w1 ⟨a1, rfl, hn1, hP1, hb1'⟩
    have HP1 : Hid (Prs .i64 w1 0 a1 n P Q) := hP1.mono (Nat.zero_le _)
    have HN1 : Hid (a1 = none → n = 0 ∧ n = 0) := fun h => ⟨hn1 h, hn1 h⟩
    clear hP1 hn1 HP HN
    go_wp2_with fail
    refine (zr_any a1 n n P Q w1 (by omega) HN1.out HP1.out).mono ?_
    rintro e w2 ⟨a2, rfl, hn2, hP2, hb2⟩
    have HP2 : Hid (Prs .i64 w2 0 a2 n P Q) := hP2.mono (Nat.zero_le _)
    have HN2 : Hid (a2 = none → n = 0 ∧ n = 0) := fun h => ⟨hn2 h, hn2 h⟩
    have HP1' : Hid (Prs .i64 w2 0 a1 n P Q) := HP1.out.below hb2
    have hbel2 : Below w.heap.size w w2 := hb1'.trans (hb2.mono hb1'.size)
    clear hP2 hn2 hb1' hb2 HP1 HN1
    go_wp2_with fail
    refine (zzask_any n n a2 pn dl rd jn t p base P Q w2 hn HN2.out HP2.out hpn hpn1 hjn hjn1 HBs.out hp hp1).mono ?_
    rintro e w3 ⟨h3, h3'⟩
    obtain ⟨a3, he3, hP3, hb3⟩ := h3' hpb'
    rw [← HK.out] at he3 hP3
    subst he3
    have HP3 : Hid (Prs .i64 w3 0 a3 (n + 1) (upd P n t) (upd Q n k)) := hP3
    have HP1'' : Hid (Prs .i64 w3 0 a1 n P Q) := HP1'.out.below hb3
    have hbel3 : Below w.heap.size w w3 := hbel2.trans (hb3.mono hbel2.size)
    clear hP3 h3 h3' hbel2 hb3 HP2 HP1' HN2
    go_wp2_with fail
    refine (HC.out _).mono ?_
    rintro e w4 ⟨rfl, rfl⟩
    go_wp2_with fail
    refine (joined_more a3 a1 n (n + 1) n P Q t k _ (by omega) kb1 (HP3.out.alloc _) (HP1''.out.alloc _)).mono ?_
    rintro e w5 ⟨rfl, hb5⟩
    have hbel5 : Below w.heap.size w w5 := (hbel3.alloc hbel3.size _).trans (hb5.mono (by simp; have := hbel3.size; omega))
    go_wp2
    go_ret
    exact ⟨rfl, hbel5⟩

end Go.Proofs.Qxb6601136aMods.Ask
