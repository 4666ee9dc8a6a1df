/- The contracts of room and place. -/
import Derived.Test.Qxb6601136aModsPodsBoth
namespace Go.Proofs.Qxb6601136aMods.Place
open Go.ChangeShapes Go.WideShapes Go.ChangeAt Go.RowKit
open Go.Proofs.Qxb6601136aMods.Mem Go.Proofs.Qxb6601136aMods.Pool Go.Proofs.Qxb6601136aMods.Grow Go.Proofs.Qxb6601136aMods.Pods Go.Proofs.Qxb6601136aMods.Conv Go.Proofs.Qxb6601136aMods.PodsBoth
set_option linter.unusedSimpArgs false
set_option linter.unusedVariables false

/-- As PodsSt, the cohorts' capacity whatever it is. -/
def PodsSt2 (w : World) (lo Bp : Nat) (r s p : Int) (n : Nat) (P Q : Nat → Int) (np : Option Addr) (hv : Bool) (pn dl rd jn : Int) (nj : Nat) (PJ QJ : Nat → Int) : Prop :=
  lo ≤ Bp ∧ ∃ a c, PodsBlk w Bp 88 r s p a n c np ∧ (a = none → n = 0 ∧ c = 0) ∧ PrsX .i32 w (fun b => lo ≤ b ∧ b ≠ Bp ∧ ∀ Bn, np = some ⟨Bn, 0, none⟩ → b ≠ Bn) a n P Q ∧ (hv = false → np = none) ∧
    (hv = true → ∃ Bn aj, np = some ⟨Bn, 0, none⟩ ∧ lo ≤ Bn ∧ Bn ≠ Bp ∧ PoolBlk w Bn 83 pn dl rd aj nj nj jn ∧ (aj = none → nj = 0) ∧ PrsX .i64 w (fun b => lo ≤ b ∧ b ≠ Bp ∧ b ≠ Bn) aj nj PJ QJ)

section
variable {w w' : World} {lo Bp : Nat} {r s p : Int} {n : Nat} {P Q : Nat → Int} {np : Option Addr} {hv : Bool} {pn dl rd jn : Int} {nj : Nat} {PJ QJ : Nat → Int}
theorem PodsSt2.toR (h : PodsSt2 w lo Bp r s p n P Q np hv pn dl rd jn nj PJ QJ) : PodsR w Bp r s p n P Q np hv pn dl rd jn nj PJ QJ := by
  obtain ⟨_, a, c, hb, hn, hr, h0, h1⟩ := h
  refine ⟨a, c, hb, hn, hr.prs, h0, fun ht => ?_⟩
  obtain ⟨Bn, aj, hp, _, _, hB, hnj, hrj⟩ := h1 ht
  exact ⟨Bn, aj, nj, hp, hB.at, fun e => ⟨hnj e, hnj e⟩, hrj.prs⟩
theorem st2_of (h : PodsSt w lo Bp r s p n P Q np hv pn dl rd jn nj PJ QJ) (t m : Int) : PodsSt2 w lo Bp r s p n (upd P n t) (upd Q n m) np hv pn dl rd jn nj PJ QJ := by
  obtain ⟨hl, a, hb, hn, hr, h0, h1⟩ := h
  exact ⟨hl, a, n, hb, fun e => ⟨hn e, hn e⟩, hr.congr (fun j hj => by simp [upd, hj]), h0, h1⟩
theorem st_drewN (h : PodsSt w lo Bp r s p n P Q np hv pn dl rd jn nj PJ QJ) (k : Nat) : PodsSt (w.drewN k) lo Bp r s p n P Q np hv pn dl rd jn nj PJ QJ := h
end

/-- What place leaves, out of its parts: one cohort more. -/
theorem place_st {w w2 : World} {o : Obj} {lo Bp g cp : Nat} {r s p s' p' : Int} {n : Nat} {P' Q' : Nat → Int} {a np : Option Addr} {hv : Bool} {pn dl rd jn : Int} {nj : Nat} {PJ QJ : Nat → Int} (hl : lo ≤ Bp) (hb : PodsBlk w2 Bp 88 r s p a n n np)
    (h0 : hv = false → np = none) (h1 : hv = true → ∃ Bn aj, np = some ⟨Bn, 0, none⟩ ∧ lo ≤ Bn ∧ Bn ≠ Bp ∧ PoolBlk w Bn 83 pn dl rd aj nj nj jn ∧ (aj = none → nj = 0) ∧ PrsX .i64 w (fun b => lo ≤ b ∧ b ≠ Bp ∧ b ≠ Bn) aj nj PJ QJ)
    (hBp : Bp < w.heap.size) (hlo : lo ≤ w.heap.size) (hg : (w.alloc o).grownBy w2 none) (hP : Prs .i32 w2 (w.alloc o).heap.size (some ⟨g, 0, none⟩) (n + 1) P' Q') :
    PodsSt2 (((w2.setCell ⟨Bp, 3, none⟩ (.slice (some ⟨g, 0, none⟩) (n + 1) cp)).setCell ⟨Bp, 1, none⟩ (.int .i32 s')).setCell ⟨Bp, 2, none⟩ (.int .i32 p')) lo Bp r s' p' (n + 1) P' Q' np hv pn dl rd jn nj PJ QJ ∧
    Below lo w (((w2.setCell ⟨Bp, 3, none⟩ (.slice (some ⟨g, 0, none⟩) (n + 1) cp)).setCell ⟨Bp, 1, none⟩ (.int .i32 s')).setCell ⟨Bp, 2, none⟩ (.int .i32 p')) := by
  have hsz := hg.size
  rw [World.size_alloc] at hsz
  have hk : ∀ b, b ≠ Bp → (((w2.setCell ⟨Bp, 3, none⟩ (.slice (some ⟨g, 0, none⟩) (n + 1) cp)).setCell ⟨Bp, 1, none⟩ (.int .i32 s')).setCell ⟨Bp, 2, none⟩ (.int .i32 p')).heap[b]? = w2.heap[b]? := fun b hb => by
    rw [Below.heap_setCell _ _ _ _ hb, Below.heap_setCell _ _ _ _ hb, Below.heap_setCell _ _ _ _ hb]
  have hk2 : ∀ b, b < w.heap.size → w2.heap[b]? = w.heap[b]? := fun b hlt => by
    rw [hg.block b (by simp; omega) (by simp)]
    exact Below.heap_alloc _ _ _ hlt
  have hbel : Below lo w w2 := ⟨hg.os, hg.tape, hg.output, by omega, fun b hb => hk2 b (by omega)⟩
  refine ⟨⟨hl, some ⟨g, 0, none⟩, cp, ((hb.setCohorts _ _ _).setStarting _).setPending _, fun h => (by cases h), ?_, h0, fun ht => ?_⟩, ((hbel.setCell (p := ⟨Bp, 3, none⟩) hl _).setCell (p := ⟨Bp, 1, none⟩) hl _).setCell (p := ⟨Bp, 2, none⟩) hl _⟩
  · have hX : PrsX .i32 w2 (fun b => lo ≤ b ∧ b ≠ Bp ∧ ∀ Bn, np = some ⟨Bn, 0, none⟩ → b ≠ Bn) (some ⟨g, 0, none⟩) (n + 1) P' Q' := by
      refine PrsX.ofPrs hP (fun b hb hlt => ?_)
      rw [World.size_alloc] at hb
      refine ⟨by omega, by omega, fun Bn hBn => ?_⟩
      cases hv with
      | false => have := h0 rfl; rw [this] at hBn; cases hBn
      | true =>
        obtain ⟨B, aj, hp, _, _, hB, _⟩ := h1 rfl
        rw [hp] at hBn
        simp at hBn
        have := hB.lt
        omega
    exact hX.kept (fun b hb _ => hk b hb.2.1) (by simp)
  · obtain ⟨Bn, aj, hp, hl1, hne, hB, hnj, hr⟩ := h1 ht
    exact ⟨Bn, aj, hp, hl1, hne, hB.block ((hk Bn hne).trans (hk2 Bn hB.lt)), hnj, hr.kept (fun b hb hlt => (hk b hb.2.1).trans (hk2 b hlt)) (by simp; omega)⟩

theorem pods_after {w1 w2 : World} {B : Nat} {t : TypeId} {r s p : Int} {a np : Option Addr} {n c : Nat} (h : PodsBlk w1 B t r s p a n c np) {o : Obj} (hg : (w1.alloc o).grownBy w2 none) :
    PodsBlk w2 B t r s p a n c np := (h.alloc o).block (hg.block B (h.alloc o).lt (by simp))

theorem room_any (B : Nat) (a : Option Addr) (n c : Nat) (pn dl rd jn rm : Int) (w : World) (hB : PoolBlk w B 83 pn dl rd a n c jn) (hb : rd * pn = rm) (hb0 : 0 ≤ rm) (hb1 : rm ≤ 9223372032559808512) :
    Calls Trym.prog 45 #[.pointer (some ⟨B, 0, none⟩)] w fun e w' => e = .returned (.int .i64 rm) ∧ ∃ q, w' = w.drewN q := by
  obtain ⟨h0, h1, h2, h3, h4, h5⟩ := hB.at
  simp only [Nat.zero_add] at h2 h3 h4 h5
  clear hB h2 h4 h5
  go_enter Trym.func45, Trym.ntmps45
  go_wp2
  go_quiet (fail)
  go_wp2
  go_ret
  exact ⟨rfl, _, rfl⟩

/-- How many pods place starts. -/
def fit (hv : Bool) (rm r s p : Int) : Int := if hv then (if rm - r - s < p then rm - r - s else p) else p
/-- The cohorts' number behind it. -/
def cnt (n : Nat) (m : Int) : Nat := if m = 0 then n else n + 1

theorem fit_bd {hv : Bool} {rm r s p : Int} (hp : 0 ≤ p) (h : hv = true → r + s ≤ rm) : 0 ≤ fit hv rm r s p ∧ fit hv rm r s p ≤ p := by
  unfold fit
  cases hv with
  | false => simp; omega
  | true =>
    have := h rfl
    simp only [if_true]
    split <;> omega

theorem place_nil0 (Bp lo : Nat) (r s p t : Int) (n : Nat) (P Q : Nat → Int) (np : Option Addr) (pn dl rd jn : Int) (nj : Nat) (PJ QJ : Nat → Int) (w : World) (hn : n ≤ 65536) (hlo : lo ≤ w.heap.size) (hr0 : 0 ≤ r) (hs0 : 0 ≤ s) (hp0 : 0 ≤ p) (hsum : r + s + p ≤ 2147483647) (hS : PodsSt w lo Bp r s p n P Q np false pn dl rd jn nj PJ QJ) (hz : p = 0) :
    Calls Trym.prog 38 #[.pointer (some ⟨Bp, 0, none⟩), .int .i64 t] w fun e w' => e = .returned (.tuple #[]) ∧ PodsSt2 w' lo Bp r (s + 0) (p - 0) (cnt n 0) (upd P n t) (upd Q n 0) np false pn dl rd jn nj PJ QJ ∧ Below lo w w' := by
  subst hz
  have HS : Hid (PodsSt w lo Bp r s 0 n P Q np false pn dl rd jn nj PJ QJ) := hS
  obtain ⟨hl, a, hB, hnil, hX, h0x, h1x⟩ := hS
  obtain rfl := h0x rfl
  obtain ⟨y0, y1, y2, y3, y4⟩ := hB.cells
  clear hnil hX h0x h1x hB y0 y1 y3
  go_enter Trym.func38, Trym.ntmps38
  go_wp2
  go_returns
  refine ⟨rfl, ?_, Below.refl _ _⟩
  simpa [cnt] using st2_of HS.out t 0

set_option maxHeartbeats 1000000 in
set_option maxRecDepth 100000 in
theorem place_nil1 (Bp lo : Nat) (r s p t : Int) (n : Nat) (P Q : Nat → Int) (np : Option Addr) (pn dl rd jn : Int) (nj : Nat) (PJ QJ : Nat → Int) (w : World) (hn : n ≤ 65536) (hlo : lo ≤ w.heap.size) (hr0 : 0 ≤ r) (hs0 : 0 ≤ s) (hp0 : 0 ≤ p) (hsum : r + s + p ≤ 2147483647) (hv : Bool) (hhv : hv = false) (hS : PodsSt w lo Bp r s p n P Q np hv pn dl rd jn nj PJ QJ) (hz : 1 ≤ p) :
    Calls Trym.prog 38 #[.pointer (some ⟨Bp, 0, none⟩), .int .i64 t] w fun e w' => e = .returned (.tuple #[]) ∧ PodsSt2 w' lo Bp r (s + p) (p - p) (cnt n p) (upd P n t) (upd Q n p) np hv pn dl rd jn nj PJ QJ ∧ Below lo w w' := by
  have HS1 : Hid (PodsSt w lo Bp r s p n P Q np hv pn dl rd jn nj PJ QJ) := hS
  obtain ⟨hl', a', hB, hnil', hX', h0', h1'⟩ := hS
  have hnp := h0' hhv
  obtain ⟨y0', y1', y2', y3', y4'⟩ := hB.cells
  rw [hnp] at y4'
  clear hnil' hX' h0' h1' hB y0' y1' y3' hnp hhv
  go_enter Trym.func38, Trym.ntmps38
  have hl := HS1.out.1
  obtain ⟨a, hB1, hnil, hX, h0x, h1x⟩ := HS1.out.2
  have HN : Hid (a = none → n = 0 ∧ n = 0) := fun e => ⟨hnil e, hnil e⟩
  have HP1 : Hid (Prs .i32 w 0 a n P Q) := hX.prs
  have H01 : Hid ((hv = false → np = none) ∧ (hv = true → ∃ Bn aj, np = some ⟨Bn, 0, none⟩ ∧ lo ≤ Bn ∧ Bn ≠ Bp ∧ PoolBlk w Bn 83 pn dl rd aj nj nj jn ∧ (aj = none → nj = 0) ∧ PrsX .i64 w (fun b => lo ≤ b ∧ b ≠ Bp ∧ b ≠ Bn) aj nj PJ QJ)) := ⟨h0x, h1x⟩
  have hBlt := hB1.lt
  have HB1 : Hid (PodsBlk w Bp 88 r s p a n n np) := hB1
  obtain ⟨y0, y1, y2, y3, y4⟩ := hB1.cells
  clear hnil hX h0x h1x hB1 y0 y1 y2 y4
  have hme : (p == 0) = false := by simp; omega
  obtain ⟨i86, hi, hz0, hz1, hz2⟩ := info_parts info86
  go_wp2_with (at_builtin; refine wpList_append_grows _ rfl (.tmp 41) (.tmp 45) 84 rfl 86 i86 (.agg #[.int .i64 0, .int .i32 0]) 2 16 Trym.underlying84 hi hz0 hz1 hz2 rfl (by decide) a n n (prl .i32 P Q n) rfl HN.out (prl_length _ _ _ _) (prs_olds (HP1.out.alloc _)) ⟨w.heap.size, 0, none⟩ 1 1 [.int .i64 t, .int .i32 (p)] rfl rfl news_two (by intro u hu; simp at hu; rcases hu with rfl | rfl <;> rfl) (by omega) (by unfold maxLen; omega) (by omega) ?_; intro v2 w2 hown2 hgrow2; rw [prl_snoc] at hown2; obtain ⟨g, cp, rfl, hg, hglt, hP2⟩ := own_prs hown2; have hB2 := pods_after HB1.out hgrow2; obtain ⟨x0, x1, x2, x3, x4⟩ := hB2.cells; clear x0 x4; have f3' := hB2.frozen 3; have f1' := hB2.frozen 1; have f2' := hB2.frozen 2; have HB2 : Hid (PodsBlk w2 Bp 88 r s p a n n np) := hB2; clear hB2 hown2)
  have HF : Hid _ := place_st (cp := cp) (s' := s + p) (p' := 0) hl HB2.out H01.out.1 H01.out.2 hBlt hlo hgrow2 hP2
  clear hP2 hgrow2
  go_returns
  refine ⟨rfl, ?_, ?_⟩
  · rw [show cnt n (p) = n + 1 from by simp [cnt]; omega]
    rw [Int.sub_self]; exact HF.out.1
  · exact id HF.out.2

set_option maxHeartbeats 2000000 in
set_option maxRecDepth 100000 in
theorem place_someA (Bp lo : Nat) (r s p t : Int) (n : Nat) (P Q : Nat → Int) (np : Option Addr) (pn dl rd jn : Int) (nj : Nat) (PJ QJ : Nat → Int) (w : World) (hn : n ≤ 65536) (hlo : lo ≤ w.heap.size) (hr0 : 0 ≤ r) (hs0 : 0 ≤ s) (hp0 : 0 ≤ p) (hsum : r + s + p ≤ 2147483647) (hv : Bool) (hhv : hv = true) (rm m : Int) (hb : rd * pn = rm) (hb0 : 0 ≤ rm) (hb1 : rm ≤ 9223372032559808512) (hrs : r + s ≤ rm) (hc : rm - r - s < p) (hm : m = rm - r - s) (hmp : m ≤ p) (hz : 1 ≤ m) (hS : PodsSt w lo Bp r s p n P Q np hv pn dl rd jn nj PJ QJ) :
    Calls Trym.prog 38 #[.pointer (some ⟨Bp, 0, none⟩), .int .i64 t] w fun e w' => e = .returned (.tuple #[]) ∧ PodsSt2 w' lo Bp r (s + m) (p - m) (cnt n m) (upd P n t) (upd Q n m) np hv pn dl rd jn nj PJ QJ ∧ Below lo w w' := by
  have HS : Hid (PodsSt w lo Bp r s p n P Q np hv pn dl rd jn nj PJ QJ) := hS
  have HM : Hid (m = rm - r - s) := hm
  obtain ⟨hl', a', hB, hnil', hX', h0', h1'⟩ := hS
  obtain ⟨Bn, aj, hnp, hlB, hne, hPB, hnj, hrj⟩ := h1' hhv
  have HNP : Hid (np = some ⟨Bn, 0, none⟩) := hnp
  have HPB : Hid (PoolBlk w Bn 83 pn dl rd aj nj nj jn) := hPB
  have HRm : Hid (rd * pn = rm) := hb
  obtain ⟨y0', y1', y2', y3', y4'⟩ := hB.cells
  rw [hnp] at y4'
  clear hnil' hX' h0' h1' hB y3' hnp hhv hPB hrj hnj hm hb
  go_enter Trym.func38, Trym.ntmps38
  go_wp2
  go_quiet ((go_at_call 45; exact Calls.quiet_of (room_any Bn aj nj nj pn dl rd jn rm _ HPB.out HRm.out hb0 hb1)))
  rw [← HM.out]
  generalize hw1 : World.drewN w _ = w1
  have HS1 : Hid (PodsSt w1 lo Bp r s p n P Q np hv pn dl rd jn nj PJ QJ) := by rw [← hw1]; exact HS.out
  have hbw1 : Below lo w w1 := by rw [← hw1]; exact below_drewN (Below.refl _ _) _
  have hlo1 : lo ≤ w1.heap.size := Nat.le_trans hlo hbw1.size
  clear hw1 HS y0' y1' y2' y4' HPB
  have hl := HS1.out.1
  obtain ⟨a, hB1, hnil, hX, h0x, h1x⟩ := HS1.out.2
  have HN : Hid (a = none → n = 0 ∧ n = 0) := fun e => ⟨hnil e, hnil e⟩
  have HP1 : Hid (Prs .i32 w1 0 a n P Q) := hX.prs
  have H01 : Hid ((hv = false → np = none) ∧ (hv = true → ∃ Bn aj, np = some ⟨Bn, 0, none⟩ ∧ lo ≤ Bn ∧ Bn ≠ Bp ∧ PoolBlk w1 Bn 83 pn dl rd aj nj nj jn ∧ (aj = none → nj = 0) ∧ PrsX .i64 w1 (fun b => lo ≤ b ∧ b ≠ Bp ∧ b ≠ Bn) aj nj PJ QJ)) := ⟨h0x, h1x⟩
  have hBlt := hB1.lt
  have HB1 : Hid (PodsBlk w1 Bp 88 r s p a n n np) := hB1
  obtain ⟨y0, y1, y2, y3, y4⟩ := hB1.cells
  clear hnil hX h0x h1x hB1 y0 y1 y2 y4
  have hme : (m == 0) = false := by simp; omega
  obtain ⟨i86, hi, hz0, hz1, hz2⟩ := info_parts info86
  go_wp2_with (at_builtin; refine wpList_append_grows _ rfl (.tmp 41) (.tmp 45) 84 rfl 86 i86 (.agg #[.int .i64 0, .int .i32 0]) 2 16 Trym.underlying84 hi hz0 hz1 hz2 rfl (by decide) a n n (prl .i32 P Q n) rfl HN.out (prl_length _ _ _ _) (prs_olds (HP1.out.alloc _)) ⟨w1.heap.size, 0, none⟩ 1 1 [.int .i64 t, .int .i32 (m)] rfl rfl news_two (by intro u hu; simp at hu; rcases hu with rfl | rfl <;> rfl) (by omega) (by unfold maxLen; omega) (by omega) ?_; intro v2 w2 hown2 hgrow2; rw [prl_snoc] at hown2; obtain ⟨g, cp, rfl, hg, hglt, hP2⟩ := own_prs hown2; have hB2 := pods_after HB1.out hgrow2; obtain ⟨x0, x1, x2, x3, x4⟩ := hB2.cells; clear x0 x4; have f3' := hB2.frozen 3; have f1' := hB2.frozen 1; have f2' := hB2.frozen 2; have HB2 : Hid (PodsBlk w2 Bp 88 r s p a n n np) := hB2; clear hB2 hown2)
  have HF : Hid _ := place_st (cp := cp) (s' := s + m) (p' := p - m) hl HB2.out H01.out.1 H01.out.2 hBlt hlo1 hgrow2 hP2
  clear hP2 hgrow2
  go_returns
  refine ⟨rfl, ?_, ?_⟩
  · rw [show cnt n (m) = n + 1 from by simp [cnt]; omega]
    exact HF.out.1
  · exact hbw1.trans HF.out.2

set_option maxHeartbeats 2000000 in
set_option maxRecDepth 100000 in
theorem place_someA0 (Bp lo : Nat) (r s p t : Int) (n : Nat) (P Q : Nat → Int) (np : Option Addr) (pn dl rd jn : Int) (nj : Nat) (PJ QJ : Nat → Int) (w : World) (hn : n ≤ 65536) (hlo : lo ≤ w.heap.size) (hr0 : 0 ≤ r) (hs0 : 0 ≤ s) (hp0 : 0 ≤ p) (hsum : r + s + p ≤ 2147483647) (hv : Bool) (hhv : hv = true) (rm : Int) (hb : rd * pn = rm) (hb0 : 0 ≤ rm) (hb1 : rm ≤ 9223372032559808512) (hrs : r + s ≤ rm) (hc : rm - r - s < p) (hm : 0 = rm - r - s) (hS : PodsSt w lo Bp r s p n P Q np hv pn dl rd jn nj PJ QJ) :
    Calls Trym.prog 38 #[.pointer (some ⟨Bp, 0, none⟩), .int .i64 t] w fun e w' => e = .returned (.tuple #[]) ∧ PodsSt2 w' lo Bp r (s + 0) (p - 0) (cnt n 0) (upd P n t) (upd Q n 0) np hv pn dl rd jn nj PJ QJ ∧ Below lo w w' := by
  have HS : Hid (PodsSt w lo Bp r s p n P Q np hv pn dl rd jn nj PJ QJ) := hS
  have HM : Hid (0 = rm - r - s) := hm
  obtain ⟨hl', a', hB, hnil', hX', h0', h1'⟩ := hS
  obtain ⟨Bn, aj, hnp, hlB, hne, hPB, hnj, hrj⟩ := h1' hhv
  have HNP : Hid (np = some ⟨Bn, 0, none⟩) := hnp
  have HPB : Hid (PoolBlk w Bn 83 pn dl rd aj nj nj jn) := hPB
  have HRm : Hid (rd * pn = rm) := hb
  obtain ⟨y0', y1', y2', y3', y4'⟩ := hB.cells
  rw [hnp] at y4'
  clear hnil' hX' h0' h1' hB y3' hnp hhv hPB hrj hnj hm hb
  go_enter Trym.func38, Trym.ntmps38
  go_wp2
  go_quiet ((go_at_call 45; exact Calls.quiet_of (room_any Bn aj nj nj pn dl rd jn rm _ HPB.out HRm.out hb0 hb1)))
  rw [← HM.out]
  generalize hw1 : World.drewN w _ = w1
  have HS1 : Hid (PodsSt w1 lo Bp r s p n P Q np hv pn dl rd jn nj PJ QJ) := by rw [← hw1]; exact HS.out
  have hbw1 : Below lo w w1 := by rw [← hw1]; exact below_drewN (Below.refl _ _) _
  have hlo1 : lo ≤ w1.heap.size := Nat.le_trans hlo hbw1.size
  clear hw1 HS y0' y1' y2' y4' HPB
  go_wp2
  go_returns
  refine ⟨rfl, ?_, hbw1⟩
  simpa [cnt] using st2_of HS1.out t 0

set_option maxHeartbeats 2000000 in
set_option maxRecDepth 100000 in
theorem place_someB (Bp lo : Nat) (r s p t : Int) (n : Nat) (P Q : Nat → Int) (np : Option Addr) (pn dl rd jn : Int) (nj : Nat) (PJ QJ : Nat → Int) (w : World) (hn : n ≤ 65536) (hlo : lo ≤ w.heap.size) (hr0 : 0 ≤ r) (hs0 : 0 ≤ s) (hp0 : 0 ≤ p) (hsum : r + s + p ≤ 2147483647) (hv : Bool) (hhv : hv = true) (rm : Int) (hb : rd * pn = rm) (hb0 : 0 ≤ rm) (hb1 : rm ≤ 9223372032559808512) (hrs : r + s ≤ rm) (hc : p ≤ rm - r - s) (hz : 1 ≤ p) (hS : PodsSt w lo Bp r s p n P Q np hv pn dl rd jn nj PJ QJ) :
    Calls Trym.prog 38 #[.pointer (some ⟨Bp, 0, none⟩), .int .i64 t] w fun e w' => e = .returned (.tuple #[]) ∧ PodsSt2 w' lo Bp r (s + p) (p - p) (cnt n p) (upd P n t) (upd Q n p) np hv pn dl rd jn nj PJ QJ ∧ Below lo w w' := by
  have HS : Hid (PodsSt w lo Bp r s p n P Q np hv pn dl rd jn nj PJ QJ) := hS
  obtain ⟨hl', a', hB, hnil', hX', h0', h1'⟩ := hS
  obtain ⟨Bn, aj, hnp, hlB, hne, hPB, hnj, hrj⟩ := h1' hhv
  have HNP : Hid (np = some ⟨Bn, 0, none⟩) := hnp
  have HPB : Hid (PoolBlk w Bn 83 pn dl rd aj nj nj jn) := hPB
  have HRm : Hid (rd * pn = rm) := hb
  obtain ⟨y0', y1', y2', y3', y4'⟩ := hB.cells
  rw [hnp] at y4'
  clear hnil' hX' h0' h1' hB y3' hnp hhv hPB hrj hnj hb
  go_enter Trym.func38, Trym.ntmps38
  go_wp2
  go_quiet ((go_at_call 45; exact Calls.quiet_of (room_any Bn aj nj nj pn dl rd jn rm _ HPB.out HRm.out hb0 hb1)))
  generalize hw1 : World.drewN w _ = w1
  have HS1 : Hid (PodsSt w1 lo Bp r s p n P Q np hv pn dl rd jn nj PJ QJ) := by rw [← hw1]; exact HS.out
  have hbw1 : Below lo w w1 := by rw [← hw1]; exact below_drewN (Below.refl _ _) _
  have hlo1 : lo ≤ w1.heap.size := Nat.le_trans hlo hbw1.size
  clear hw1 HS y0' y1' y2' y4' HPB
  have hl := HS1.out.1
  obtain ⟨a, hB1, hnil, hX, h0x, h1x⟩ := HS1.out.2
  have HN : Hid (a = none → n = 0 ∧ n = 0) := fun e => ⟨hnil e, hnil e⟩
  have HP1 : Hid (Prs .i32 w1 0 a n P Q) := hX.prs
  have H01 : Hid ((hv = false → np = none) ∧ (hv = true → ∃ Bn aj, np = some ⟨Bn, 0, none⟩ ∧ lo ≤ Bn ∧ Bn ≠ Bp ∧ PoolBlk w1 Bn 83 pn dl rd aj nj nj jn ∧ (aj = none → nj = 0) ∧ PrsX .i64 w1 (fun b => lo ≤ b ∧ b ≠ Bp ∧ b ≠ Bn) aj nj PJ QJ)) := ⟨h0x, h1x⟩
  have hBlt := hB1.lt
  have HB1 : Hid (PodsBlk w1 Bp 88 r s p a n n np) := hB1
  obtain ⟨y0, y1, y2, y3, y4⟩ := hB1.cells
  clear hnil hX h0x h1x hB1 y0 y1 y2 y4
  have hme : (p == 0) = false := by simp; omega
  obtain ⟨i86, hi, hz0, hz1, hz2⟩ := info_parts info86
  go_wp2_with (at_builtin; refine wpList_append_grows _ rfl (.tmp 41) (.tmp 45) 84 rfl 86 i86 (.agg #[.int .i64 0, .int .i32 0]) 2 16 Trym.underlying84 hi hz0 hz1 hz2 rfl (by decide) a n n (prl .i32 P Q n) rfl HN.out (prl_length _ _ _ _) (prs_olds (HP1.out.alloc _)) ⟨w1.heap.size, 0, none⟩ 1 1 [.int .i64 t, .int .i32 (p)] rfl rfl news_two (by intro u hu; simp at hu; rcases hu with rfl | rfl <;> rfl) (by omega) (by unfold maxLen; omega) (by omega) ?_; intro v2 w2 hown2 hgrow2; rw [prl_snoc] at hown2; obtain ⟨g, cp, rfl, hg, hglt, hP2⟩ := own_prs hown2; have hB2 := pods_after HB1.out hgrow2; obtain ⟨x0, x1, x2, x3, x4⟩ := hB2.cells; clear x0 x4; have f3' := hB2.frozen 3; have f1' := hB2.frozen 1; have f2' := hB2.frozen 2; have HB2 : Hid (PodsBlk w2 Bp 88 r s p a n n np) := hB2; clear hB2 hown2)
  have HF : Hid _ := place_st (cp := cp) (s' := s + p) (p' := 0) hl HB2.out H01.out.1 H01.out.2 hBlt hlo1 hgrow2 hP2
  clear hP2 hgrow2
  go_returns
  refine ⟨rfl, ?_, ?_⟩
  · rw [show cnt n (p) = n + 1 from by simp [cnt]; omega]
    rw [Int.sub_self]; exact HF.out.1
  · exact hbw1.trans HF.out.2

set_option maxHeartbeats 2000000 in
set_option maxRecDepth 100000 in
theorem place_someB0 (Bp lo : Nat) (r s p t : Int) (n : Nat) (P Q : Nat → Int) (np : Option Addr) (pn dl rd jn : Int) (nj : Nat) (PJ QJ : Nat → Int) (w : World) (hn : n ≤ 65536) (hlo : lo ≤ w.heap.size) (hr0 : 0 ≤ r) (hs0 : 0 ≤ s) (hp0 : 0 ≤ p) (hsum : r + s + p ≤ 2147483647) (hv : Bool) (hhv : hv = true) (rm : Int) (hb : rd * pn = rm) (hb0 : 0 ≤ rm) (hb1 : rm ≤ 9223372032559808512) (hrs : r + s ≤ rm) (hc : p ≤ rm - r - s) (hz : p = 0) (hS : PodsSt w lo Bp r s p n P Q np hv pn dl rd jn nj PJ QJ) :
    Calls Trym.prog 38 #[.pointer (some ⟨Bp, 0, none⟩), .int .i64 t] w fun e w' => e = .returned (.tuple #[]) ∧ PodsSt2 w' lo Bp r (s + 0) (p - 0) (cnt n 0) (upd P n t) (upd Q n 0) np hv pn dl rd jn nj PJ QJ ∧ Below lo w w' := by
  subst hz
  have HS : Hid (PodsSt w lo Bp r s 0 n P Q np hv pn dl rd jn nj PJ QJ) := hS
  obtain ⟨hl', a', hB, hnil', hX', h0', h1'⟩ := hS
  obtain ⟨Bn, aj, hnp, hlB, hne, hPB, hnj, hrj⟩ := h1' hhv
  have HNP : Hid (np = some ⟨Bn, 0, none⟩) := hnp
  have HPB : Hid (PoolBlk w Bn 83 pn dl rd aj nj nj jn) := hPB
  have HRm : Hid (rd * pn = rm) := hb
  obtain ⟨y0', y1', y2', y3', y4'⟩ := hB.cells
  rw [hnp] at y4'
  clear hnil' hX' h0' h1' hB y3' hnp hhv hPB hrj hnj hb
  go_enter Trym.func38, Trym.ntmps38
  go_wp2
  go_quiet ((go_at_call 45; exact Calls.quiet_of (room_any Bn aj nj nj pn dl rd jn rm _ HPB.out HRm.out hb0 hb1)))
  generalize hw1 : World.drewN w _ = w1
  have HS1 : Hid (PodsSt w1 lo Bp r s 0 n P Q np hv pn dl rd jn nj PJ QJ) := by rw [← hw1]; exact HS.out
  have hbw1 : Below lo w w1 := by rw [← hw1]; exact below_drewN (Below.refl _ _) _
  have hlo1 : lo ≤ w1.heap.size := Nat.le_trans hlo hbw1.size
  clear hw1 HS y0' y1' y2' y4' HPB
  go_wp2
  go_returns
  refine ⟨rfl, ?_, hbw1⟩
  simpa [cnt] using st2_of HS1.out t 0

/-- place: as many pending pods as fit are started. -/
theorem place_any (Bp lo : Nat) (r s p t : Int) (n : Nat) (P Q : Nat → Int) (np : Option Addr) (pn dl rd jn : Int) (nj : Nat) (PJ QJ : Nat → Int) (w : World) (hn : n ≤ 65536) (hlo : lo ≤ w.heap.size) (hr0 : 0 ≤ r) (hs0 : 0 ≤ s) (hp0 : 0 ≤ p) (hsum : r + s + p ≤ 2147483647) (hv : Bool) (rm : Int) (hrm : hv = true → rd * pn = rm ∧ 0 ≤ rm ∧ rm ≤ 9223372032559808512 ∧ r + s ≤ rm) (hS : PodsSt w lo Bp r s p n P Q np hv pn dl rd jn nj PJ QJ) :
    Calls Trym.prog 38 #[.pointer (some ⟨Bp, 0, none⟩), .int .i64 t] w fun e w' => e = .returned (.tuple #[]) ∧ PodsSt2 w' lo Bp r (s + (fit hv rm r s p)) (p - (fit hv rm r s p)) (cnt n (fit hv rm r s p)) (upd P n t) (upd Q n (fit hv rm r s p)) np hv pn dl rd jn nj PJ QJ ∧ Below lo w w' := by
  have hcnt0 : cnt n 0 = n := by simp [cnt]
  cases hv with
  | false =>
    rw [show fit false rm r s p = p from by simp [fit]]
    by_cases hz : p = 0
    · have := place_nil0 Bp lo r s p t n P Q np pn dl rd jn nj PJ QJ w hn hlo hr0 hs0 hp0 hsum hS hz
      rw [hz]
      rw [hz] at this
      exact this
    · exact place_nil1 Bp lo r s p t n P Q np pn dl rd jn nj PJ QJ w hn hlo hr0 hs0 hp0 hsum false rfl hS (by omega)
  | true =>
    obtain ⟨h1, h2, h3, h4⟩ := hrm rfl
    by_cases hc : rm - r - s < p
    · rw [show fit true rm r s p = rm - r - s from by simp [fit, hc]]
      by_cases hz : rm - r - s = 0
      · rw [hz]
        exact place_someA0 Bp lo r s p t n P Q np pn dl rd jn nj PJ QJ w hn hlo hr0 hs0 hp0 hsum true rfl rm h1 h2 h3 h4 hc hz.symm hS
      · exact place_someA Bp lo r s p t n P Q np pn dl rd jn nj PJ QJ w hn hlo hr0 hs0 hp0 hsum true rfl rm _ h1 h2 h3 h4 hc rfl (by omega) (by omega) hS
    · rw [show fit true rm r s p = p from by simp [fit, hc]]
      by_cases hz : p = 0
      · have := place_someB0 Bp lo r s p t n P Q np pn dl rd jn nj PJ QJ w hn hlo hr0 hs0 hp0 hsum true rfl rm h1 h2 h3 h4 (by omega) hz hS
        rw [hz]
        rw [hz] at this
        exact this
      · exact place_someB Bp lo r s p t n P Q np pn dl rd jn nj PJ QJ w hn hlo hr0 hs0 hp0 hsum true rfl rm h1 h2 h3 h4 (by omega) (by omega) hS

end Go.Proofs.Qxb6601136aMods.Place
