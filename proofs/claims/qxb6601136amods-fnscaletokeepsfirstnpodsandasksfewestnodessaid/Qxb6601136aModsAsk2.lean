/- ask once more, with a frame that keeps all but its own pool. -/
import Derived.Test.Qxb6601136aModsAskSmall
import Derived.Test.Qxb6601136aModsPlace
import Derived.Test.Qxb6601136aModsShr
import Derived.Deep.RegionWith
import Derived.Deep.DrawnRows
namespace Go.Proofs.Qxb6601136aMods.Ask2
open Go.ChangeShapes Go.WideShapes Go.ChangeAt Go.RowKit
open Go.Proofs.Qxb6601136aMods.Mem Go.Proofs.Qxb6601136aMods.Pool Go.Proofs.Qxb6601136aMods.Grow Go.Proofs.Qxb6601136aMods.Pods Go.Proofs.Qxb6601136aMods.PodsBoth Go.Proofs.Qxb6601136aMods.Place Go.Proofs.Qxb6601136aMods.Ask Go.Proofs.Qxb6601136aMods.Shr
set_option linter.unusedSimpArgs false
set_option linter.unusedVariables false

theorem blk_after {w1 w2 : World} {B : Nat} {t : TypeId} {pn dl rd jn : Int} {a : Option Addr} {n c : Nat} (h : PoolBlk w1 B t pn dl rd a n c jn) {o : Obj} (hg : (w1.alloc o).grownBy w2 none) :
    PoolBlk w2 B t pn dl rd a n c jn := (h.alloc o).block (hg.block B (h.alloc o).lt (by simp))

set_option maxHeartbeats 1000000 in
theorem ask_none (B n c : Nat) (a : Option Addr) (pn dl rd jn t p base : Int) (w : World) (hB : PoolBlk w B 83 pn dl rd a n c jn) (hb : jn * pn = base) (hb0 : 0 ≤ base) (hb1 : base ≤ 9223372032559808512)
    (hp : -2147483648 ≤ p) (hp1 : p ≤ 2147483647) (hc : p ≤ base) :
    Calls Trym.prog 35 #[.pointer (some ⟨B, 0, none⟩), .int .i64 t, .int .i32 p] w fun e w' => e = .returned (.int .i64 0) ∧ ∃ q, w' = w.drewN q := by
  obtain ⟨h0, h1, h2, h3, h4, h5⟩ := hB.at
  simp only [Nat.zero_add] at h2 h3 h4 h5
  clear h2 h3 h4 hB
  go_enter Trym.func35, Trym.ntmps35
  go_wp2
  go_quiet (fail)
  go_wp2
  go_ret
  exact ⟨rfl, _, rfl⟩

set_option maxHeartbeats 2000000 in
set_option maxRecDepth 100000 in
theorem ask_some (B n : Nat) (a : Option Addr) (pn dl rd jn t p base : Int) (P Q : Nat → Int) (w : World) (hn : n ≤ 1048576) (hnil : a = none → n = 0) (hB : PoolBlk w B 83 pn dl rd a n n jn) (hP : Prs .i64 w 0 a n P Q)
    (hpn : 1 ≤ pn) (hpn1 : pn ≤ 2147483647) (hjn : 0 ≤ jn) (hjn1 : jn ≤ 4294967296) (hb : jn * pn = base) (hb0 : 0 ≤ base) (hb1 : base ≤ 9223372032559808512)
    (hp : -2147483648 ≤ p) (hp1 : p ≤ 2147483647) (hc : base < p) :
    Calls Trym.prog 35 #[.pointer (some ⟨B, 0, none⟩), .int .i64 t, .int .i32 p] w fun e w' => e = .returned (.int .i64 (need pn base p)) ∧ ∃ g cp, PoolBlk w' B 83 pn dl rd (some ⟨g, 0, none⟩) (n + 1) cp (jn + need pn base p) ∧
      Prs .i64 w' w.heap.size (some ⟨g, 0, none⟩) (n + 1) (upd P n t) (upd Q n (need pn base p)) ∧ Shr.Rest w w' B B ∧ Below B w w' := by
  obtain ⟨h0, h1, h2, h3, h4, h5⟩ := hB.at
  simp only [Nat.zero_add] at h2 h3 h4 h5
  clear h2 h3
  have HB : Hid (PoolBlk w B 83 pn dl rd a n n jn) := hB
  have HP : Hid (Prs .i64 w 0 a n P Q) := hP
  have HN : Hid (a = none → n = 0 ∧ n = 0) := fun h => ⟨hnil h, hnil h⟩
  clear hB hP hnil
  obtain ⟨k, hk⟩ : ∃ k, k = need pn base p := ⟨_, rfl⟩
  rw [← hk]
  obtain ⟨ke, k1, k2, k3, k4⟩ := need_pos (pn := pn) (base := base) (p := p) hpn hc
  rw [← hk] at ke k1 k4
  have HK : Hid (k = (p - base + pn - 1) / pn) := ke
  clear ke k2 k3 hk
  obtain ⟨i81, hi, hz0, hz1, hz2⟩ := info_parts info81
  go_enter Trym.func35, Trym.ntmps35
  go_wp2
  go_quiet (fail)
  go_wp2
  go_quiet (fail)
  rw [← HK.out]
  generalize hw1 : World.drewN (World.drewN w _) _ = w1
  have hB1 : PoolBlk w1 B 83 pn dl rd a n n jn := by rw [← hw1]; exact HB.out
  have HP1 : Hid (Prs .i64 w1 0 a n P Q) := by rw [← hw1]; exact HP.out
  have hbel1 : Below w.heap.size w w1 := by rw [← hw1]; exact below_drewN (below_drewN (Below.refl _ _) _) _
  have hs1 : w1.heap.size = w.heap.size := by rw [← hw1]; rfl
  clear hw1 h1 h4 h5 HB HP hb
  obtain ⟨h0', h1, h2, h3, h4, h5⟩ := hB1.at
  simp only [Nat.zero_add] at h2 h3 h4 h5
  clear h2 h3 h1 hs1
  have f3 : w1.frozen? ⟨B, 3, none⟩ = false := hB1.frozen _
  have HB1 : Hid (PoolBlk w1 B 83 pn dl rd a n n jn) := hB1
  clear hB1
  go_wp2_with (at_builtin; refine wpList_append_grows _ rfl (.tmp 39) (.tmp 43) 79 rfl 81 i81 (.agg #[.int .i64 0, .int .i64 0]) 2 16 Trym.underlying79 hi hz0 hz1 hz2 rfl (by decide) a n n (prl .i64 P Q n) rfl HN.out (prl_length _ _ _ _) (prs_olds (HP1.out.alloc _)) ⟨w1.heap.size, 0, none⟩ 1 1 [.int .i64 t, .int .i64 k] rfl rfl news_two (by intro u hu; simp at hu; rcases hu with rfl | rfl <;> rfl) (by omega) (by unfold maxLen; omega) (by omega) ?_; intro v2 w2 hown2 hgrow2; rw [prl_snoc] at hown2; obtain ⟨g, cp, rfl, hg, hglt, hP2⟩ := own_prs hown2; have hB2 := blk_after HB1.out hgrow2; obtain ⟨e0, e1, e2, e3, e4, e5⟩ := hB2.at; simp only [Nat.zero_add] at e4 e5; clear e0 e1 e2 e3; have f3' := hB2.frozen 3; have f4' := hB2.frozen 4; have HB2 : Hid (PoolBlk w2 B 83 pn dl rd a n n jn) := hB2; clear hB2 hown2)
  have hsz := hbel1.size
  have hlo : B < (w1.alloc (.cells #[.int .i64 t, .int .i64 k] 81)).heap.size := by simp; omega
  go_ret
  refine ⟨rfl, g, cp, (HB2.out.setJoining _ _ _).setJn _, ?_, ?_, ?_⟩
  · exact ((hP2.setOther (p := ⟨B, 3, none⟩) hlo _).setOther (p := ⟨B, 4, none⟩) hlo _).mono (by simp; omega)
  · have hs2 := hgrow2.size
    rw [World.size_alloc] at hs2
    refine Shr.Rest.setP (Shr.Rest.setP (w' := w2) ⟨by omega, fun b h1 _ h3 => ?_⟩ _ _) _ _
    rw [hgrow2.block b (by simp; omega) (by simp), Below.heap_alloc _ _ _ (by omega)]
    exact hbel1.block b h3
  · exact (((((hbel1.mono (B' := B) (by omega)).alloc (by omega) _).grown hgrow2 (by omega) (fun x hx => by cases hx)).setCell (p := ⟨B, 3, none⟩) (Nat.le_refl _) _).setCell (p := ⟨B, 4, none⟩) (Nat.le_refl _) _)

/-- ask, on the pool of pods. -/
theorem ask_pods (lo Bp : Nat) (r s p t base k : Int) (n nj nj2 : Nat) (P Q : Nat → Int) (np : Option Addr) (pn dl rd jn : Int) (PJ QJ : Nat → Int) (w : World) (hnj : nj ≤ 1048575) (hpn : 1 ≤ pn) (hpn1 : pn ≤ 2147483647) (hjn : 0 ≤ jn) (hjn1 : jn ≤ 4294967296) (hb : jn * pn = base) (hp : -2147483648 ≤ p) (hp1 : p ≤ 2147483647)
    (hk : need pn base p = k) (hn2 : cnt nj k = nj2) (hS : PodsSt2 w lo Bp r s p n P Q np true pn dl rd jn nj PJ QJ) :
    Calls Trym.prog 35 #[.pointer np, .int .i64 t, .int .i32 p] w fun e w' => e = .returned (.int .i64 k) ∧ PodsR w' Bp r s p n P Q np true pn dl rd (jn + k) nj2 (upd PJ nj t) (upd QJ nj k) ∧ Below lo w w' := by
  have HR := hS.toR
  obtain ⟨hl, a, c, hB, hn, hX, -, h1⟩ := hS
  obtain ⟨Bn, aj, rfl, hln, hne, hPB, hnj0, hXj⟩ := h1 rfl
  obtain ⟨hb0, hb1⟩ := base_bd (pn := pn) (jn := jn) (by omega) hpn1 hjn hjn1
  rw [hb] at hb0 hb1
  by_cases hc : p ≤ base
  · rw [need_zero hc] at hk
    subst hk
    rw [show cnt nj 0 = nj from by simp [cnt]] at hn2
    subst hn2
    refine (ask_none Bn nj nj aj pn dl rd jn t p base w hPB hb hb0 hb1 hp hp1 hc).mono ?_
    rintro e w' ⟨rfl, q, rfl⟩
    refine ⟨rfl, ?_, below_drewN (Below.refl _ _) _⟩
    refine ⟨a, c, hB, hn, hX.prs, fun h => (by cases h), fun _ => ⟨Bn, aj, nj, rfl, ?_, fun e => ⟨hnj0 e, hnj0 e⟩, prs_congr hXj.prs (fun j hj => by simp [upd, hj])⟩⟩
    rw [Int.add_zero]
    exact hPB.at
  · have hkp := (need_pos (pn := pn) (base := base) (p := p) hpn (by omega)).2.1
    rw [hk] at hkp
    rw [show cnt nj k = nj + 1 from by simp [cnt]; omega] at hn2
    subst hn2
    refine (ask_some Bn nj aj pn dl rd jn t p base PJ QJ w (by omega) hnj0 hPB hXj.prs hpn hpn1 hjn hjn1 hb hb0 hb1 hp hp1 (by omega)).mono ?_
    rintro e w' ⟨rfl, g, cp, hPB', hP', hR, hbl⟩
    rw [hk] at hPB' hP' ⊢
    refine ⟨rfl, ⟨a, c, hB.block (hR.2 Bp (Ne.symm hne) (Ne.symm hne) hB.lt), hn, (hX.kept (fun b hb hlt => hR.2 b (hb.2.2 Bn rfl) (hb.2.2 Bn rfl) hlt) hR.1).prs, fun h => (by cases h), fun _ => ⟨Bn, _, cp, rfl, hPB'.at, fun e => (by cases e), hP'.mono (Nat.zero_le _)⟩⟩, hbl.mono hln⟩

end Go.Proofs.Qxb6601136aMods.Ask2
