/- The contracts of ask and ZZAsk. -/
import Derived.Test.Qxb6601136aModsAskSmall
import Derived.Deep.RegionWith
import Derived.Deep.DrawnRows
namespace Go.Proofs.Qxb6601136aMods.Ask
open Go.ChangeShapes Go.WideShapes Go.ChangeAt Go.RowKit
open Go.Proofs.Qxb6601136aMods.Mem Go.Proofs.Qxb6601136aMods.Pool Go.Proofs.Qxb6601136aMods.Grow
set_option linter.unusedSimpArgs false
set_option linter.unusedVariables false

theorem blk_after {w1 w2 : World} {B : Nat} {t : TypeId} {pn dl rd jn : Int} {a : Option Addr} {n c : Nat} (h : PoolBlk w1 B t pn dl rd a n c jn) {o : Obj} (hg : (w1.alloc o).grownBy w2 none) :
    PoolBlk w2 B t pn dl rd a n c jn := (h.alloc o).block (hg.block B (h.alloc o).lt (by simp))

set_option maxHeartbeats 1000000 in
theorem ask_none (B n c : Nat) (a : Option Addr) (pn dl rd jn t p base : Int) (w : World) (hB : PoolBlk w B 83 pn dl rd a n c jn) (hb : jn * pn = base) (hb0 : 0 ≤ base) (hb1 : base ≤ 9223372032559808512)
    (hp : -2147483648 ≤ p) (hp1 : p ≤ 2147483647) (hc : p ≤ base) :
    Calls Trym.prog 35 #[.pointer (some ⟨B, 0, none⟩), .int .i64 t, .int .i32 p] w fun e w' => e = .returned (.int .i64 0) ∧ ∃ q, w' = w.drewN q := by
  obtain ⟨h0, h1, h2, h3, h4, h5⟩ := hB.at
  simp only [Nat.zero_add] at h2 h3 h4 h5
  clear h2 h3 h4 hB
  go_enter Trym.func35, Trym.ntmps35
  go_wp2
  go_quiet (fail)
  go_wp2
  go_ret
  exact ⟨rfl, _, rfl⟩

set_option maxHeartbeats 2000000 in
set_option maxRecDepth 100000 in
theorem ask_some (B n : Nat) (a : Option Addr) (pn dl rd jn t p base : Int) (P Q : Nat → Int) (w : World) (hn : n ≤ 1048576) (hnil : a = none → n = 0) (hB : PoolBlk w B 83 pn dl rd a n n jn) (hP : Prs .i64 w 0 a n P Q)
    (hpn : 1 ≤ pn) (hpn1 : pn ≤ 2147483647) (hjn : 0 ≤ jn) (hjn1 : jn ≤ 4294967296) (hb : jn * pn = base) (hb0 : 0 ≤ base) (hb1 : base ≤ 9223372032559808512)
    (hp : -2147483648 ≤ p) (hp1 : p ≤ 2147483647) (hc : base < p) :
    Calls Trym.prog 35 #[.pointer (some ⟨B, 0, none⟩), .int .i64 t, .int .i32 p] w fun e w' => e = .returned (.int .i64 (need pn base p)) ∧ ∃ g cp, PoolBlk w' B 83 pn dl rd (some ⟨g, 0, none⟩) (n + 1) cp (jn + need pn base p) ∧
      Prs .i64 w' w.heap.size (some ⟨g, 0, none⟩) (n + 1) (upd P n t) (upd Q n (need pn base p)) ∧ Below B w w' := by
  obtain ⟨h0, h1, h2, h3, h4, h5⟩ := hB.at
  simp only [Nat.zero_add] at h2 h3 h4 h5
  clear h2 h3
  have HB : Hid (PoolBlk w B 83 pn dl rd a n n jn) := hB
  have HP : Hid (Prs .i64 w 0 a n P Q) := hP
  have HN : Hid (a = none → n = 0 ∧ n = 0) := fun h => ⟨hnil h, hnil h⟩
  clear hB hP hnil
  obtain ⟨k, hk⟩ : ∃ k, k = need pn base p := ⟨_, rfl⟩
  rw [← hk]
  obtain ⟨ke, k1, k2, k3, k4⟩ := need_pos (pn := pn) (base := base) (p := p) hpn hc
  rw [← hk] at ke k1 k4
  have HK : Hid (k = (p - base + pn - 1) / pn) := ke
  clear ke k2 k3 hk
  obtain ⟨i81, hi, hz0, hz1, hz2⟩ := info_parts info81
  go_enter Trym.func35, Trym.ntmps35
  go_wp2
  go_quiet (fail)
  go_wp2
  go_quiet (fail)
  rw [← HK.out]
  generalize hw1 : World.drewN (World.drewN w _) _ = w1
  have hB1 : PoolBlk w1 B 83 pn dl rd a n n jn := by rw [← hw1]; exact HB.out
  have HP1 : Hid (Prs .i64 w1 0 a n P Q) := by rw [← hw1]; exact HP.out
  have hbel1 : Below w.heap.size w w1 := by rw [← hw1]; exact below_drewN (below_drewN (Below.refl _ _) _) _
  have hs1 : w1.heap.size = w.heap.size := by rw [← hw1]; rfl
  clear hw1 h1 h4 h5 HB HP hb
  obtain ⟨h0', h1, h2, h3, h4, h5⟩ := hB1.at
  simp only [Nat.zero_add] at h2 h3 h4 h5
  clear h2 h3 h1 hs1
  have f3 : w1.frozen? ⟨B, 3, none⟩ = false := hB1.frozen _
  have HB1 : Hid (PoolBlk w1 B 83 pn dl rd a n n jn) := hB1
  clear hB1
  go_wp2_with (at_builtin; refine wpList_append_grows _ rfl (.tmp 39) (.tmp 43) 79 rfl 81 i81 (.agg #[.int .i64 0, .int .i64 0]) 2 16 Trym.underlying79 hi hz0 hz1 hz2 rfl (by decide) a n n (prl .i64 P Q n) rfl HN.out (prl_length _ _ _ _) (prs_olds (HP1.out.alloc _)) ⟨w1.heap.size, 0, none⟩ 1 1 [.int .i64 t, .int .i64 k] rfl rfl news_two (by intro u hu; simp at hu; rcases hu with rfl | rfl <;> rfl) (by omega) (by unfold maxLen; omega) (by omega) ?_; intro v2 w2 hown2 hgrow2; rw [prl_snoc] at hown2; obtain ⟨g, cp, rfl, hg, hglt, hP2⟩ := own_prs hown2; have hB2 := blk_after HB1.out hgrow2; obtain ⟨e0, e1, e2, e3, e4, e5⟩ := hB2.at; simp only [Nat.zero_add] at e4 e5; clear e0 e1 e2 e3; have f3' := hB2.frozen 3; have f4' := hB2.frozen 4; have HB2 : Hid (PoolBlk w2 B 83 pn dl rd a n n jn) := hB2; clear hB2 hown2)
  have hsz := hbel1.size
  have hlo : B < (w1.alloc (.cells #[.int .i64 t, .int .i64 k] 81)).heap.size := by simp; omega
  go_ret
  refine ⟨rfl, g, cp, (HB2.out.setJoining _ _ _).setJn _, ?_, ?_⟩
  · exact ((hP2.setOther (p := ⟨B, 3, none⟩) hlo _).setOther (p := ⟨B, 4, none⟩) hlo _).mono (by simp; omega)
  · exact (((((hbel1.mono (B' := B) (by omega)).alloc (by omega) _).grown hgrow2 (by omega) (fun x hx => by cases hx)).setCell (p := ⟨B, 3, none⟩) (Nat.le_refl _) _).setCell (p := ⟨B, 4, none⟩) (Nat.le_refl _) _)

/-- Behind five stores into block R: the pool there, lists of later blocks, and what was there before R. -/
theorem stored5 {w w3 : World} {R : Nat} {a a0 : Option Addr} {n n0 c0 : Nat} {P Q : Nat → Int} {pn0 dl0 rd0 jn0 : Int} (pn dl rd jn : Int) (c : Nat) (hR0 : PoolBlk w3 R 27 pn0 dl0 rd0 a0 n0 c0 jn0) (hP : Prs .i64 w3 (R + 1) a n P Q) (hb : Below w.heap.size w w3) (hR : w.heap.size ≤ R) :
    ∃ W5, W5 = (((((w3.setCell ⟨R, 0, none⟩ (.int .i64 pn)).setCell ⟨R, 1, none⟩ (.int .i64 dl)).setCell ⟨R, 2, none⟩ (.int .i64 rd)).setCell ⟨R, 3, none⟩ (.slice a n c)).setCell ⟨R, 4, none⟩ (.int .i64 jn)) ∧
      PoolBlk W5 R 27 pn dl rd a n c jn ∧ Prs .i64 W5 0 a n P Q ∧ Below w.heap.size w W5 := by
  have hl : R < R + 1 := Nat.lt_succ_self R
  refine ⟨_, rfl, ?_, (((((hP.setOther (p := ⟨R, 0, none⟩) hl _).setOther (p := ⟨R, 1, none⟩) hl _).setOther (p := ⟨R, 2, none⟩) hl _).setOther (p := ⟨R, 3, none⟩) hl _).setOther (p := ⟨R, 4, none⟩) hl _).mono (Nat.zero_le _),
    ((((hb.setCell (p := ⟨R, 0, none⟩) hR _).setCell (p := ⟨R, 1, none⟩) hR _).setCell (p := ⟨R, 2, none⟩) hR _).setCell (p := ⟨R, 3, none⟩) hR _).setCell (p := ⟨R, 4, none⟩) hR _⟩
  unfold PoolBlk at hR0 ⊢
  simp [World.setCell, Array.getElem?_modify, hR0]

set_option maxHeartbeats 2000000 in
set_option maxRecDepth 100000 in
/-- ZZAsk, whatever is asked for. -/
theorem zzask_any (n c : Nat) (a : Option Addr) (pn dl rd jn t p base : Int) (P Q : Nat → Int) (w : World) (hn : n ≤ 65536) (hnil : a = none → n = 0 ∧ c = 0) (hP : Prs .i64 w 0 a n P Q)
    (hpn : 1 ≤ pn) (hpn1 : pn ≤ 2147483647) (hjn : 0 ≤ jn) (hjn1 : jn ≤ 4294967296) (hb : jn * pn = base) (hp : -2147483648 ≤ p) (hp1 : p ≤ 2147483647) :
    Calls Trym.prog 11 #[.agg #[.int .i64 pn, .int .i64 dl, .int .i64 rd, .slice a n c, .int .i64 jn], .int .i64 t, .int .i32 p] w fun e w' =>
      (p ≤ base → ∃ a', e = .returned (.tuple #[.int .i64 0, .agg #[.int .i64 pn, .int .i64 dl, .int .i64 rd, .slice a' n n, .int .i64 jn]]) ∧ Prs .i64 w' 0 a' n P Q ∧ Below w.heap.size w w') ∧
      (base < p → ∃ a', e = .returned (.tuple #[.int .i64 (need pn base p), .agg #[.int .i64 pn, .int .i64 dl, .int .i64 rd, .slice a' (n + 1) (n + 1), .int .i64 (jn + need pn base p)]]) ∧
        Prs .i64 w' 0 a' (n + 1) (upd P n t) (upd Q n (need pn base p)) ∧ Below w.heap.size w w') := by
  obtain ⟨hb0, hb1⟩ := base_bd (pn := pn) (jn := jn) (by omega) hpn1 hjn hjn1
  rw [hb] at hb0 hb1
  have HP : Hid (Prs .i64 w 0 a n P Q) := hP
  have HN : Hid (a = none → n = 0 ∧ c = 0) := hnil
  have HBs : Hid (jn * pn = base) := hb
  clear hP hnil hb
  by_cases hpb : p ≤ base
  · go_enter Trym.func11, Trym.ntmps11
    go_wp2_with fail
    refine (pin_any w.heap.size a n c pn dl rd jn P Q _ (by omega) HN.out ((PoolBlk.new w 27 pn dl rd a n c jn).alloc _).at ((HP.out.alloc _).alloc _)).mono ?_
    rintro e w1 ⟨B', a', rfl, hB', hPB, hn', hP', hbel⟩
    have HPB : Hid (PoolBlk w1 B' 83 pn dl rd a' n n jn) := hPB
    have HR1 : Hid (PoolBlk w1 (w.heap.size + 1) 27 0 0 0 none 0 0 0) := by
      have := (PoolBlk.new (w.alloc (.cells #[.int .i64 pn, .int .i64 dl, .int .i64 rd, .slice a n c, .int .i64 jn] 27)) 27 0 0 0 none 0 0 0).below hbel
      rw [World.size_alloc] at this
      exact this
    have HP1 : Hid (Prs .i64 w1 0 a' n P Q) := hP'.mono (Nat.zero_le _)
    have HN1 : Hid (a' = none → n = 0) := hn'
    have HBel1 : Hid (Below w.heap.size w w1) := (by go_grown : Below w.heap.size w _).trans (hbel.mono (by simp; omega))
    have hB2 : w.heap.size + 1 < B' := by simp at hB'; omega
    clear hPB hP' hn' hbel hB' HP HN
    go_wp2_with fail
    refine (ask_none B' n n a' pn dl rd jn t p base _ HPB.out HBs.out hb0 hb1 hp hp1 hpb).mono ?_
    rintro e w2 ⟨rfl, q, hq⟩
    have HAt2 : Hid (PoolAt w2.drew B' 0 pn dl rd a' n n jn) := by rw [hq]; exact HPB.out.at
    have HP2 : Hid (Prs .i64 w2.drew 0 a' n P Q) := by rw [hq]; exact HP1.out
    have HR2 : Hid (PoolBlk w2.drew (w.heap.size + 1) 27 0 0 0 none 0 0 0) := by rw [hq]; exact HR1.out
    have HBel2 : Hid (Below w.heap.size w w2.drew) := by rw [hq]; exact (below_drewN HBel1.out q).drew
    clear hq HPB HR1 HP1 HBel1
    go_wp2_with fail
    go_region_with (go_at_call 36; refine (pout_any B' a' n n pn dl rd jn P Q _ (by omega) (fun h => ⟨HN1.out h, HN1.out h⟩) ?_ ?_).mono ?_; (exact HAt2.out); (exact HP2.out); rintro e w3 ⟨B3, a3, rfl, hB3, hPB3, hn3, hP3, hbel3⟩; (have hR3 := HR2.out.below hbel3); obtain ⟨r0, r1, r2, r3, r4, r5⟩ := hR3.at; (simp only [Nat.zero_add] at r2 r3 r4 r5); (have fr := hR3.frozen); obtain ⟨s0, s1, s2, s3, s4, s5⟩ := hPB3.at; (simp only [Nat.zero_add] at s2 s3 s4 s5); (have HF3 : Hid (Prs .i64 w3 (w.heap.size + 1 + 1) a3 n P Q) := hP3.mono HR2.out.lt); (have HG3 : Hid (Below w.heap.size w w3) := HBel2.out.trans (hbel3.mono HBel2.out.size)); (have HR3 : Hid (PoolBlk w3 (w.heap.size + 1) 27 0 0 0 none 0 0 0) := hR3); clear hPB3 hP3 hn3 hB3 hbel3 hR3)
    all_goals go_wp2
    obtain ⟨W5, hW5, hB5, hP5, hb5⟩ := stored5 pn dl rd (jn) (n) HR3.out HF3.out HG3.out (Nat.le_succ _)
    rw [← hW5]
    obtain ⟨q0, q1, q2, q3, q4, q5⟩ := hB5.at
    simp only [Nat.zero_add] at q2 q3 q4 q5
    refine bodyPost_ret (v := .tuple #[.int .i64 (0), .agg #[.int .i64 pn, .int .i64 dl, .int .i64 rd, .slice a3 (n) (n), .int .i64 (jn)]]) (by simp [results, Trym.results11, go_sem, q1, q2, q3, q4, q5]) rfl ?_
    exact ⟨fun _ => ⟨a3, rfl, hP5, hb5⟩, fun h => absurd h (by omega)⟩
  · have hpb' : base < p := by omega
    clear hpb
    obtain ⟨k, hk⟩ : ∃ k, k = need pn base p := ⟨_, rfl⟩
    rw [← hk]
    have HK : Hid (k = need pn base p) := hk
    have kb : 1 ≤ k ∧ k ≤ 2147483648 := by
      have := need_pos (pn := pn) (base := base) (p := p) hpn hpb'
      rw [← hk] at this
      omega
    clear hk
    go_enter Trym.func11, Trym.ntmps11
    go_wp2_with fail
    refine (pin_any w.heap.size a n c pn dl rd jn P Q _ (by omega) HN.out ((PoolBlk.new w 27 pn dl rd a n c jn).alloc _).at ((HP.out.alloc _).alloc _)).mono ?_
    rintro e w1 ⟨B', a', rfl, hB', hPB, hn', hP', hbel⟩
    have HPB : Hid (PoolBlk w1 B' 83 pn dl rd a' n n jn) := hPB
    have HR1 : Hid (PoolBlk w1 (w.heap.size + 1) 27 0 0 0 none 0 0 0) := by
      have := (PoolBlk.new (w.alloc (.cells #[.int .i64 pn, .int .i64 dl, .int .i64 rd, .slice a n c, .int .i64 jn] 27)) 27 0 0 0 none 0 0 0).below hbel
      rw [World.size_alloc] at this
      exact this
    have HP1 : Hid (Prs .i64 w1 0 a' n P Q) := hP'.mono (Nat.zero_le _)
    have HN1 : Hid (a' = none → n = 0) := hn'
    have HBel1 : Hid (Below w.heap.size w w1) := (by go_grown : Below w.heap.size w _).trans (hbel.mono (by simp; omega))
    have hB2 : w.heap.size + 1 < B' := by simp at hB'; omega
    clear hPB hP' hn' hbel hB' HP HN
    go_wp2_with fail
    refine (ask_some B' n a' pn dl rd jn t p base P Q _ (by omega) HN1.out HPB.out HP1.out hpn hpn1 hjn hjn1 HBs.out hb0 hb1 hp hp1 hpb').mono ?_
    rintro e w2 ⟨rfl, g, cp, hB3, hP3, hbel3⟩
    rw [← HK.out] at hB3 hP3 ⊢
    have HAt2 : Hid (PoolAt w2.drew B' 0 pn dl rd (some ⟨g, 0, none⟩) (n + 1) cp (jn + k)) := hB3.at
    have HP2 : Hid (Prs .i64 w2.drew 0 (some ⟨g, 0, none⟩) (n + 1) (upd P n t) (upd Q n k)) := hP3.mono (Nat.zero_le _)
    have HR2 : Hid (PoolBlk w2.drew (w.heap.size + 1) 27 0 0 0 none 0 0 0) := HR1.out.block (hbel3.block _ hB2)
    have HBel2 : Hid (Below w.heap.size w w2.drew) := (HBel1.out.trans (hbel3.mono (by omega))).drew
    clear hB3 hP3 hbel3 HPB HR1 HP1 HBel1
    have hn1 : n + 1 ≤ 1048576 := by omega
    go_wp2_with fail
    go_region_with (go_at_call 36; refine (pout_any B' (some ⟨g, 0, none⟩) (n + 1) cp pn dl rd (jn + k) (upd P n t) (upd Q n k) _ hn1 (fun h => by cases h) ?_ ?_).mono ?_; (exact HAt2.out); (exact HP2.out); rintro e w3 ⟨B3, a3, rfl, hB3, hPB3, hn3, hP3, hbel3⟩; (have hR3 := HR2.out.below hbel3); obtain ⟨r0, r1, r2, r3, r4, r5⟩ := hR3.at; (simp only [Nat.zero_add] at r2 r3 r4 r5); (have fr := hR3.frozen); obtain ⟨s0, s1, s2, s3, s4, s5⟩ := hPB3.at; (simp only [Nat.zero_add] at s2 s3 s4 s5); (have HF3 : Hid (Prs .i64 w3 (w.heap.size + 1 + 1) a3 (n + 1) (upd P n t) (upd Q n k)) := hP3.mono HR2.out.lt); (have HG3 : Hid (Below w.heap.size w w3) := HBel2.out.trans (hbel3.mono HBel2.out.size)); (have HR3 : Hid (PoolBlk w3 (w.heap.size + 1) 27 0 0 0 none 0 0 0) := hR3); clear hPB3 hP3 hn3 hB3 hbel3 hR3)
    all_goals go_wp2
    obtain ⟨W5, hW5, hB5, hP5, hb5⟩ := stored5 pn dl rd (jn + k) (n + 1) HR3.out HF3.out HG3.out (Nat.le_succ _)
    rw [← hW5]
    obtain ⟨q0, q1, q2, q3, q4, q5⟩ := hB5.at
    simp only [Nat.zero_add] at q2 q3 q4 q5
    refine bodyPost_ret (v := .tuple #[.int .i64 (k), .agg #[.int .i64 pn, .int .i64 dl, .int .i64 rd, .slice a3 (n + 1) (n + 1), .int .i64 (jn + k)]]) (by simp [results, Trym.results11, go_sem, q1, q2, q3, q4, q5]) rfl ?_
    exact ⟨fun h => absurd h (by omega), fun _ => ⟨a3, rfl, hP5, hb5⟩⟩

end Go.Proofs.Qxb6601136aMods.Ask
