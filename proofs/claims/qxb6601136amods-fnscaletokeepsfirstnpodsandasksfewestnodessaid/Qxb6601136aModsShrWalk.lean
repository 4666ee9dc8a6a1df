/- scaleTo where it shrinks: the walk. -/
import Derived.Test.Qxb6601136aModsShr
namespace Go.Proofs.Qxb6601136aMods.Shr
open Go.ChangeShapes Go.WideShapes Go.ChangeAt Go.RowKit
open Go.Proofs.Qxb6601136aMods.Mem Go.Proofs.Qxb6601136aMods.Pool Go.Proofs.Qxb6601136aMods.Pods Go.Proofs.Qxb6601136aMods.PodsBoth Go.Proofs.Qxb6601136aMods.Pin2
set_option linter.unusedSimpArgs false
set_option linter.unusedVariables false

theorem shr_end {lo Bp N n m : Nat} {a : Option Addr} {r s p x p' k f1 s' f r' : Int} {P Q Q' : Nat → Int} {np : Option Addr} {hv : Bool} {pn dl rd jn : Int} {nj : Nat} {PJ QJ : Nat → Int} {w wr : World} (hI : Inv w wr lo Bp N n r p' a np P Q s f1 m Q' s' f) (hX : PoolX w lo Bp N np hv pn dl rd jn nj PJ QJ)
    (hpos : ∀ j, j < n → 0 < Q j) (hl : lo ≤ Bp) (hr0 : 0 ≤ r) (hs0 : 0 ≤ s) (hp0 : 0 ≤ p) (hx0 : 0 ≤ x) (hxe : x ≤ r + s + p) (hk : k = mn (r + s + p - x) p) (hp' : p' = p - k) (hf1 : f1 = r + s + p - x - k) (hend : f = 0 ∨ m = 0) (hr' : r' = r - f) :
    ShrPost lo Bp n r s x P Q np hv pn dl rd jn nj PJ QJ w (.returned (.int .i64 0)) (wr.setCell ⟨Bp, 0, none⟩ (.int .i32 r')) := by
  obtain ⟨i1, i2, i3, i4, i5, i6, i7⟩ := hI
  have hs' : 0 ≤ s' := by
    by_cases hm : m = 0
    · have := i3.2.2.2.1 hm; omega
    · have := cut_bd hpos i3 (by omega); omega
  have hsh := shr_of hpos hr0 hs0 hp0 hx0 hxe rfl hk hf1 i4 i3 hend hs'
  rw [← hr', ← hp'] at hsh
  have hmn := i3.1
  refine ⟨m, Q', r', s', p', rfl, ⟨a, n, i1.setReady r', fun e => ?_, ?_, Shr.PoolX.rest hX (i6.setP _ _)⟩, hsh, hmn, i7.setCell (p := ⟨Bp, 0, none⟩) hl _⟩
  · have := i2.1 e; omega
  · intro hm
    obtain ⟨c1, c2, c3, c4⟩ := i2.2.2 (by omega)
    rw [c1]
    exact prow_prs (c4.block (Below.heap_setCell _ _ _ _ c3)) hmn hm

/-- One round that drops the last cohort. -/
theorem inv_drop {lo Bp N n j : Nat} {a : Option Addr} {r s p' f1 s' f q s2 f2 : Int} {P Q Q' : Nat → Int} {np : Option Addr} {w wr : World} (hI : Inv w wr lo Bp N n r p' a np P Q s f1 (j + 1) Q' s' f) (hpos : ∀ j, j < n → 0 < Q j) (hl : lo ≤ Bp) (hf : 0 < f) (hq : Q' j = q) (hle : q ≤ f) (hs2 : s2 = s' - q) (hf2 : f2 = f - q) :
    Inv w (((wr.setCell ⟨N, j * 2 + 1, none⟩ (.int .i32 0)).setCell ⟨Bp, 1, none⟩ (.int .i32 s2)).setCell ⟨Bp, 3, none⟩ (.slice a j n)) lo Bp N n r p' a np P Q s f1 j (fun i => if i = j then 0 else Q' i) s2 f2 := by
  obtain ⟨i1, i2, i3, i4, i5, i6, i7⟩ := hI
  have hmn := i3.1
  obtain ⟨c1, c2, c3, c4⟩ := i2.2.2 (by omega)
  have hq0 := (cut_bd hpos i3 (by omega)).1
  have hc := cut_drop (Q'' := fun i => if i = j then 0 else Q' i) hpos i3 (by omega) hf (by simp only [Nat.add_sub_cancel]; omega) (fun i hi => by rw [if_neg (by omega)])
  simp only [Nat.add_sub_cancel] at hc hq0
  rw [hq] at hc hq0
  refine ⟨((i1.block (Below.heap_setCell _ _ _ _ (Ne.symm c3))).setStarting _).setCohorts _ _ _, ⟨i2.1, by omega, fun _ => ⟨c1, c2, c3, ?_⟩⟩, by rw [hs2, hf2]; exact hc, by omega, by omega, ((i6.setN _ _).setP _ _).setP _ _, ((i7.setCell (p := ⟨N, j * 2 + 1, none⟩) c2 _).setCell (p := ⟨Bp, 1, none⟩) hl _).setCell (p := ⟨Bp, 3, none⟩) hl _⟩
  exact prow_less (((prow_set c4 j 0).block (Below.heap_setCell _ _ _ _ c3)).block (Below.heap_setCell _ _ _ _ c3)) (Nat.le_succ _)

/-- One round that cuts the last cohort. -/
theorem inv_cut {lo Bp N n j : Nat} {a : Option Addr} {r s p' f1 s' f q s2 y : Int} {P Q Q' : Nat → Int} {np : Option Addr} {w wr : World} (hI : Inv w wr lo Bp N n r p' a np P Q s f1 (j + 1) Q' s' f) (hl : lo ≤ Bp) (hf : 0 < f) (hq : Q' j = q) (hlt : f < q) (hs2 : s2 = s' - f) (hy : y = q - f) :
    Inv w ((wr.setCell ⟨N, j * 2 + 1, none⟩ (.int .i32 y)).setCell ⟨Bp, 1, none⟩ (.int .i32 s2)) lo Bp N n r p' a np P Q s f1 (j + 1) (fun i => if i = j then y else Q' i) s2 0 := by
  obtain ⟨i1, i2, i3, i4, i5, i6, i7⟩ := hI
  have hmn := i3.1
  obtain ⟨c1, c2, c3, c4⟩ := i2.2.2 (by omega)
  have hc := cut_cut (Q'' := fun i => if i = j then y else Q' i) i3 (by omega) hf (by simp only [Nat.add_sub_cancel]; omega) (fun i hi => by rw [if_neg (by omega)]) (by simp only [Nat.add_sub_cancel, if_true]; omega)
  refine ⟨(i1.block (Below.heap_setCell _ _ _ _ (Ne.symm c3))).setStarting _, ⟨i2.1, by omega, fun _ => ⟨c1, c2, c3, ?_⟩⟩, by rw [hs2]; exact hc, by omega, by omega, (i6.setN _ _).setP _ _, (i7.setCell (p := ⟨N, j * 2 + 1, none⟩) c2 _).setCell (p := ⟨Bp, 1, none⟩) hl _⟩
  exact (prow_set c4 j y).block (Below.heap_setCell _ _ _ _ c3)

theorem Inv.drewN {lo Bp N n m : Nat} {a : Option Addr} {r s p' f1 s' f : Int} {P Q Q' : Nat → Int} {np : Option Addr} {w wr : World} (h : Inv w wr lo Bp N n r p' a np P Q s f1 m Q' s' f) (k : Nat) : Inv w (wr.drewN k) lo Bp N n r p' a np P Q s f1 m Q' s' f := by
  obtain ⟨i1, i2, i3, i4, i5, i6, i7⟩ := h
  exact ⟨i1, i2, i3, i4, i5, i6, below_drewN i7 _⟩

theorem Inv.drew {lo Bp N n m : Nat} {a : Option Addr} {r s p' f1 s' f : Int} {P Q Q' : Nat → Int} {np : Option Addr} {w wr : World} (h : Inv w wr lo Bp N n r p' a np P Q s f1 m Q' s' f) : Inv w wr.drew lo Bp N n r p' a np P Q s f1 m Q' s' f := by
  obtain ⟨i1, i2, i3, i4, i5, i6, i7⟩ := h
  exact ⟨i1, i2, i3, i4, i5, i6, i7.drew⟩

set_option maxHeartbeats 2000000 in
set_option maxRecDepth 100000 in
theorem shr_walk (lo Bp N n : Nat) (a : Option Addr) (r s p t x : Int) (P Q : Nat → Int) (np : Option Addr) (hv : Bool) (pn dl rd jn : Int) (nj : Nat) (PJ QJ : Nat → Int) (w : World) (hn : n ≤ 65536) (hl : lo ≤ Bp) (hr0 : 0 ≤ r) (hs0 : 0 ≤ s) (hp0 : 0 ≤ p) (hx0 : 0 ≤ x) (hsum : r + s + p ≤ 2147483647) (hxe : x ≤ r + s + p) (hpos : ∀ j, j < n → 0 < Q j) (hsm : sm Q n = s) (hB : PodsBlk w Bp 88 r s p a n n np) (hC : Coh w lo Bp N n n a P Q) (hX : PoolX w lo Bp N np hv pn dl rd jn nj PJ QJ) (hk : p < r + s + p - x) :
    Calls Trym.prog 42 #[.pointer (some ⟨Bp, 0, none⟩), .int .i64 t, .int .i32 x] w (ShrPost lo Bp n r s x P Q np hv pn dl rd jn nj PJ QJ w) := by
  have HB : Hid (PodsBlk w Bp 88 r s p a n n np) := hB
  have HC : Hid (Coh w lo Bp N n n a P Q) := hC
  have HX : Hid (PoolX w lo Bp N np hv pn dl rd jn nj PJ QJ) := hX
  have HQ : Hid (∀ j, j < n → 0 < Q j) := hpos
  have HS : Hid (sm Q n = s) := hsm
  clear hB hC hX hpos hsm
  have m1 : x - (r + s + p) ≤ 0 := by omega
  go_enter Trym.func42, Trym.ntmps42
  go_wp2_with fail
  refine (exist_any Bp r s p a n n np w HB.out hr0 hs0 hp0 hsum).mono ?_
  rintro e w1 ⟨rfl, q1, hw1⟩
  have HB1 : Hid (PodsBlk w1 Bp 88 r s p a n n np) := by rw [hw1]; exact HB.out
  have HR1 : Hid (Rest w w1 Bp N ∧ Below lo w w1 ∧ Coh w1 lo Bp N n n a P Q) := by rw [hw1]; exact ⟨Rest.refl _ _ _, below_drewN (Below.refl _ _) _, HC.out⟩
  clear hw1 HB HC
  go_wp2_with fail
  refine (exist_any Bp r s p a n n np w1 HB1.out hr0 hs0 hp0 hsum).mono ?_
  rintro e w2 ⟨rfl, q2, hw2⟩
  have hB2 : PodsBlk w2 Bp 88 r s p a n n np := by rw [hw2]; exact HB1.out
  have HR2 : Hid (Rest w w2 Bp N ∧ Below lo w w2 ∧ Coh w2 lo Bp N n n a P Q) := by rw [hw2]; exact ⟨HR1.out.1, below_drewN HR1.out.2.1 _, HR1.out.2.2⟩
  obtain ⟨y0, y1, y2, y3, y4⟩ := hB2.cells
  have f2 := hB2.frozen 2
  have HB2 : Hid (PodsBlk w2 Bp 88 r s p a n n np) := hB2
  clear hw2 hB2 HB1 HR1 y0 y1 y3 y4
  go_wp2
  have hB3 := HB2.out.setPending 0
  obtain ⟨w3, hw3⟩ : ∃ w3, w3 = w2.setCell ⟨Bp, 2, none⟩ (.int .i32 0) := ⟨_, rfl⟩
  obtain ⟨f1, hf1⟩ : ∃ f1, f1 = r + s + p - x - p := ⟨_, rfl⟩
  have hI : Inv w w3 lo Bp N n r 0 a np P Q s f1 n Q s f1 := by
    obtain ⟨g1, g2, g3⟩ := HR2.out
    rw [hw3]
    refine ⟨hB3, ⟨g3.1, g3.2.1, fun h0 => ?_⟩, cut_start HQ.out HS.out (by omega), by omega, by omega, g1.setP _ _, g2.setCell (p := ⟨Bp, 2, none⟩) hl _⟩
    obtain ⟨c1, c2, c3, c4⟩ := g3.2.2 h0
    exact ⟨c1, c2, c3, c4.block (Below.heap_setCell _ _ _ _ c3)⟩
  have HI : Hid _ := hI
  have HF1 : Hid (f1 = r + s + p - x - p) := hf1
  have hfb : f1 ≤ 2147483647 := by omega
  clear hI hf1 hB3 HR2 HB2 f2 y2
  go_loopg [8, 10, 11] (n + f1.toNat) (fun g f _ _ wr => ∃ m Q' s' fi, g = m + fi.toNat ∧ f = .int .i32 fi ∧ Inv w wr lo Bp N n r 0 a np P Q s f1 m Q' s' fi)
  case atStart => exact ⟨n, Q, s, f1, rfl, by rw [HF1.out], by rw [← hw3]; exact HI.out⟩
  case round =>
    clear hw3 HI
    obtain ⟨m, Q', s', f, rfl, rfl, hInv⟩ := hrel
    have HInv : Hid (Inv w wr lo Bp N n r 0 a np P Q s f1 m Q' s' f) := hInv
    obtain ⟨i1, i2, i3, i4, i5, i6, i7⟩ := hInv
    have HK : Hid (p = mn (r + s + p - x) p ∧ 0 = p - p) := ⟨by unfold mn; split <;> omega, by omega⟩
    have hf0 : 0 ≤ f := i3.2.2.2.2
    have hmn : m ≤ n := i3.1
    have hffr : m = 0 → s' = 0 := i3.2.2.2.1
    obtain ⟨y0, y1, y2, y3, y4⟩ := i1.cells
    have fr0 := i1.frozen 0
    have fr1 := i1.frozen 1
    have fr3 := i1.frozen 3
    by_cases hz : f = 0
    · have d0 : decide (0 < f) = false := by simp; omega
      clear i2 i3 i6 i7 hffr
      go_wp2
      go_ret
      exact shr_end HInv.out HX.out HQ.out hl hr0 hs0 hp0 hx0 hxe HK.out.1 HK.out.2 HF1.out (Or.inl hz) (by omega)
    · by_cases hmz : m = 0
      · have hs0' := hffr hmz
        have hfr : f ≤ r := by have := HF1.out; omega
        subst hmz
        clear i2 i3 i6 i7 hffr
        go_wp2
        go_ret
        exact shr_end HInv.out HX.out HQ.out hl hr0 hs0 hp0 hx0 hxe HK.out.1 HK.out.2 HF1.out (Or.inr rfl) rfl
      · obtain ⟨j, rfl⟩ : ∃ j, m = j + 1 := ⟨m - 1, by omega⟩
        obtain ⟨c1, c2, c3, c4⟩ := i2.2.2 (by omega)
        rw [c1] at y3
        have HA : Hid (a = some ⟨N, 0, none⟩) := c1
        have l1 : (0 : Int) ≤ (j : Int) := by omega
        have l2 : ((j : Nat) : Int) < ((j + 1 : Nat) : Int) := by omega
        have hsb : s' ≤ 2147483647 := by omega
        clear i1 i2 i3 i4 i6 i7 hffr c4 y0 y1 y2 y4 c1 fr0 fr1 fr3
        go_wp2
        go_quiet (fail)
        generalize hw4 : World.drewN wr _ = w4
        have HI4 : Hid (Inv w w4 lo Bp N n r 0 a np P Q s f1 (j + 1) Q' s' f) := by rw [← hw4]; exact HInv.out.drewN _
        clear hw4 HInv y3
        obtain ⟨i1, i2, i3, -, -, i6, i7⟩ := HI4.out
        obtain ⟨y0, y1, y2, y3, y4⟩ := i1.cells
        have fr1 := i1.frozen 1
        have fr3 := i1.frozen 3
        obtain ⟨q, hq⟩ : ∃ q, Q' j = q := ⟨_, rfl⟩
        obtain ⟨b1, b2⟩ := cut_bd HQ.out i3 (by omega)
        simp only [Nat.add_sub_cancel] at b1 b2
        rw [hq] at b1 b2
        obtain ⟨c1, -, -, c4⟩ := i2.2.2 (by omega)
        obtain ⟨-, z1⟩ := prow_cells c4 hmn (i := j) (by omega)
        rw [hq] at z1
        rw [c1] at y3
        have fz := c4.frozen (j * 2 + 1)
        have c3' : Bp ≠ N := Ne.symm c3
        have HQ2 : Hid (Q' j = q) := hq
        clear i1 i2 i3 i6 i7 c4 hq y4 c1 y0 y2
        by_cases hqf : q < f
        · go_wp2
          go_region
          all_goals go_wp2
          all_goals go_roundg (j + (f - q).toNat)
          case measure => omega
          case rel => exact ⟨j, _, s' - q, f - q, rfl, rfl, (by rw [← HA.out]; exact (inv_drop HI4.out HQ.out hl (by omega) HQ2.out (Int.le_of_lt hqf) rfl rfl).drew)⟩
        · by_cases hqe : q = f
          · subst hqe
            have hle : q ≤ q := Int.le_refl _
            go_wp2
            go_region
            all_goals go_wp2
            all_goals go_roundg (j + (0 : Int).toNat)
            case measure => omega
            case rel => exact ⟨j, _, s' - q, 0, rfl, rfl, (by rw [← HA.out]; exact (inv_drop HI4.out HQ.out hl b1 HQ2.out (Int.le_refl _) rfl (Int.sub_self q).symm).drew)⟩
          · have hlt : f < q := by omega
            have hne0 : (q - f == 0) = false := by simp; omega
            go_wp2
            go_roundg (j + 1 + (0 : Int).toNat)
            case measure => omega
            case rel => exact ⟨j + 1, _, s' - f, 0, rfl, rfl, inv_cut HI4.out hl (by omega) HQ2.out hlt rfl rfl⟩

set_option maxHeartbeats 2000000 in
set_option maxRecDepth 100000 in
theorem shr_pend (lo Bp N n : Nat) (a : Option Addr) (r s p t x : Int) (P Q : Nat → Int) (np : Option Addr) (hv : Bool) (pn dl rd jn : Int) (nj : Nat) (PJ QJ : Nat → Int) (w : World) (hn : n ≤ 65536) (hl : lo ≤ Bp) (hr0 : 0 ≤ r) (hs0 : 0 ≤ s) (hp0 : 0 ≤ p) (hx0 : 0 ≤ x) (hsum : r + s + p ≤ 2147483647) (hxe : x ≤ r + s + p) (hpos : ∀ j, j < n → 0 < Q j) (hsm : sm Q n = s) (hB : PodsBlk w Bp 88 r s p a n n np) (hC : Coh w lo Bp N n n a P Q) (hX : PoolX w lo Bp N np hv pn dl rd jn nj PJ QJ) (hk : r + s + p - x ≤ p) :
    Calls Trym.prog 42 #[.pointer (some ⟨Bp, 0, none⟩), .int .i64 t, .int .i32 x] w (ShrPost lo Bp n r s x P Q np hv pn dl rd jn nj PJ QJ w) := by
  have HB : Hid (PodsBlk w Bp 88 r s p a n n np) := hB
  have HC : Hid (Coh w lo Bp N n n a P Q) := hC
  have HX : Hid (PoolX w lo Bp N np hv pn dl rd jn nj PJ QJ) := hX
  have HQ : Hid (∀ j, j < n → 0 < Q j) := hpos
  have HS : Hid (sm Q n = s) := hsm
  clear hB hC hX hpos hsm
  have m1 : x - (r + s + p) ≤ 0 := by omega
  go_enter Trym.func42, Trym.ntmps42
  go_wp2_with fail
  refine (exist_any Bp r s p a n n np w HB.out hr0 hs0 hp0 hsum).mono ?_
  rintro e w1 ⟨rfl, q1, hw1⟩
  have HB1 : Hid (PodsBlk w1 Bp 88 r s p a n n np) := by rw [hw1]; exact HB.out
  have HR1 : Hid (Rest w w1 Bp N ∧ Below lo w w1 ∧ Coh w1 lo Bp N n n a P Q) := by rw [hw1]; exact ⟨Rest.refl _ _ _, below_drewN (Below.refl _ _) _, HC.out⟩
  clear hw1 HB HC
  go_wp2_with fail
  refine (exist_any Bp r s p a n n np w1 HB1.out hr0 hs0 hp0 hsum).mono ?_
  rintro e w2 ⟨rfl, q2, hw2⟩
  have hB2 : PodsBlk w2 Bp 88 r s p a n n np := by rw [hw2]; exact HB1.out
  have HR2 : Hid (Rest w w2 Bp N ∧ Below lo w w2 ∧ Coh w2 lo Bp N n n a P Q) := by rw [hw2]; exact ⟨HR1.out.1, below_drewN HR1.out.2.1 _, HR1.out.2.2⟩
  obtain ⟨y0, y1, y2, y3, y4⟩ := hB2.cells
  have f2 := hB2.frozen 2
  have HB2 : Hid (PodsBlk w2 Bp 88 r s p a n n np) := hB2
  clear hw2 hB2 HB1 HR1 y0 y1 y3 y4
  go_wp2
  have hB3 := HB2.out.setPending (p - (r + s + p - x))
  obtain ⟨w3, hw3⟩ : ∃ w3, w3 = w2.setCell ⟨Bp, 2, none⟩ (.int .i32 (p - (r + s + p - x))) := ⟨_, rfl⟩
  obtain ⟨f1, hf1⟩ : ∃ f1, f1 = r + s + p - x - (r + s + p - x) := ⟨_, rfl⟩
  have hI : Inv w w3 lo Bp N n r (p - (r + s + p - x)) a np P Q s f1 n Q s f1 := by
    obtain ⟨g1, g2, g3⟩ := HR2.out
    rw [hw3]
    refine ⟨hB3, ⟨g3.1, g3.2.1, fun h0 => ?_⟩, cut_start HQ.out HS.out (by omega), by omega, by omega, g1.setP _ _, g2.setCell (p := ⟨Bp, 2, none⟩) hl _⟩
    obtain ⟨c1, c2, c3, c4⟩ := g3.2.2 h0
    exact ⟨c1, c2, c3, c4.block (Below.heap_setCell _ _ _ _ c3)⟩
  have HI : Hid _ := hI
  have HF1 : Hid (f1 = r + s + p - x - (r + s + p - x)) := hf1
  have hfb : f1 ≤ 2147483647 := by omega
  clear hI hf1 hB3 HR2 HB2 f2 y2
  go_loopg [8, 10, 11] (n + f1.toNat) (fun g f _ _ wr => ∃ m Q' s' fi, g = m + fi.toNat ∧ f = .int .i32 fi ∧ Inv w wr lo Bp N n r (p - (r + s + p - x)) a np P Q s f1 m Q' s' fi)
  case atStart => exact ⟨n, Q, s, f1, rfl, by rw [HF1.out]; try simp, by rw [← hw3]; exact HI.out⟩
  case round =>
    clear hw3 HI
    obtain ⟨m, Q', s', f, rfl, rfl, hInv⟩ := hrel
    have HInv : Hid (Inv w wr lo Bp N n r (p - (r + s + p - x)) a np P Q s f1 m Q' s' f) := hInv
    obtain ⟨i1, i2, i3, i4, i5, i6, i7⟩ := hInv
    have HK : Hid ((r + s + p - x) = mn (r + s + p - x) p ∧ (p - (r + s + p - x)) = p - (r + s + p - x)) := ⟨by unfold mn; split <;> omega, rfl⟩
    have hf0 : 0 ≤ f := i3.2.2.2.2
    have hmn : m ≤ n := i3.1
    have hffr : m = 0 → s' = 0 := i3.2.2.2.1
    obtain ⟨y0, y1, y2, y3, y4⟩ := i1.cells
    have fr0 := i1.frozen 0
    have fr1 := i1.frozen 1
    have fr3 := i1.frozen 3
    by_cases hz : f = 0
    · have d0 : decide (0 < f) = false := by simp; omega
      clear i2 i3 i6 i7 hffr
      go_wp2
      go_ret
      exact shr_end HInv.out HX.out HQ.out hl hr0 hs0 hp0 hx0 hxe HK.out.1 rfl HF1.out (Or.inl hz) (by omega)
    · have := HF1.out
      omega

/-- scaleTo where it shrinks. -/
theorem shr_any (lo Bp N n : Nat) (a : Option Addr) (r s p t x : Int) (P Q : Nat → Int) (np : Option Addr) (hv : Bool) (pn dl rd jn : Int) (nj : Nat) (PJ QJ : Nat → Int) (w : World) (hn : n ≤ 65536) (hl : lo ≤ Bp) (hr0 : 0 ≤ r) (hs0 : 0 ≤ s) (hp0 : 0 ≤ p) (hx0 : 0 ≤ x) (hsum : r + s + p ≤ 2147483647) (hxe : x ≤ r + s + p) (hpos : ∀ j, j < n → 0 < Q j) (hsm : sm Q n = s) (hB : PodsBlk w Bp 88 r s p a n n np) (hC : Coh w lo Bp N n n a P Q) (hX : PoolX w lo Bp N np hv pn dl rd jn nj PJ QJ) :
    Calls Trym.prog 42 #[.pointer (some ⟨Bp, 0, none⟩), .int .i64 t, .int .i32 x] w (ShrPost lo Bp n r s x P Q np hv pn dl rd jn nj PJ QJ w) := by
  by_cases hk : p < r + s + p - x
  · exact shr_walk lo Bp N n a r s p t x P Q np hv pn dl rd jn nj PJ QJ w hn hl hr0 hs0 hp0 hx0 hsum hxe hpos hsm hB hC hX hk
  · exact shr_pend lo Bp N n a r s p t x P Q np hv pn dl rd jn nj PJ QJ w hn hl hr0 hs0 hp0 hx0 hsum hxe hpos hsm hB hC hX (by omega)

end Go.Proofs.Qxb6601136aMods.Shr
