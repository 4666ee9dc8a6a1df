/- scaleTo where it grows. -/
import Derived.Test.Qxb6601136aModsAsk2
namespace Go.Proofs.Qxb6601136aMods.Gr
open Go.ChangeShapes Go.WideShapes Go.ChangeAt Go.RowKit
open Go.Proofs.Qxb6601136aMods.Mem Go.Proofs.Qxb6601136aMods.Pool Go.Proofs.Qxb6601136aMods.Grow Go.Proofs.Qxb6601136aMods.Pods Go.Proofs.Qxb6601136aMods.PodsBoth Go.Proofs.Qxb6601136aMods.Place Go.Proofs.Qxb6601136aMods.Ask Go.Proofs.Qxb6601136aMods.Ask2
open Go.Proofs.Qxb6601136aMods.Shr (exist_any)
set_option linter.unusedSimpArgs false
set_option linter.unusedVariables false

/-- How many nodes are asked for. -/
def askd (hv : Bool) (pn base p : Int) : Int := if hv then need pn base p else 0

/-- What scaleTo leaves where it grows. -/
def GrPost (lo Bp n2 : Nat) (r s u : Int) (P2 Q2 : Nat → Int) (m k : Int) (np : Option Addr) (hv : Bool) (pn dl rd jn : Int) (nj2 : Nat) (PJ2 QJ2 : Nat → Int) (w : World) (e : Ending) (w' : World) : Prop :=
  e = .returned (.int .i64 k) ∧ PodsR w' Bp r (s + m) u n2 P2 Q2 np hv pn dl rd (jn + k) nj2 PJ2 QJ2 ∧ Below lo w w'

theorem st_pending {w : World} {lo Bp : Nat} {r s p : Int} {n : Nat} {P Q : Nat → Int} {np : Option Addr} {hv : Bool} {pn dl rd jn : Int} {nj : Nat} {PJ QJ : Nat → Int} (h : PodsSt w lo Bp r s p n P Q np hv pn dl rd jn nj PJ QJ) (y : Int) :
    PodsSt (w.setCell ⟨Bp, 2, none⟩ (.int .i32 y)) lo Bp r s y n P Q np hv pn dl rd jn nj PJ QJ := by
  obtain ⟨hl, a, hB, hn, hX, h0, h1⟩ := h
  have hk : ∀ b, b ≠ Bp → (w.setCell ⟨Bp, 2, none⟩ (.int .i32 y)).heap[b]? = w.heap[b]? := fun b hb => Below.heap_setCell _ _ _ _ hb
  refine ⟨hl, a, hB.setPending y, hn, hX.kept (fun b hb _ => hk b hb.2.1) (by simp), h0, fun ht => ?_⟩
  obtain ⟨Bn, aj, hp, hl1, hne, hPB, hnj, hr⟩ := h1 ht
  exact ⟨Bn, aj, hp, hl1, hne, hPB.block (hk Bn hne), hnj, hr.kept (fun b hb _ => hk b hb.2.1) (by simp)⟩

set_option maxHeartbeats 2000000 in
set_option maxRecDepth 100000 in
theorem grow_any (lo Bp n nj n2 nj2 : Nat) (r s p t x m k rm base u : Int) (P Q : Nat → Int) (np : Option Addr) (hv : Bool) (pn dl rd jn : Int) (PJ QJ : Nat → Int) (w : World) (hn : n ≤ 65536) (hnj : nj ≤ 1048575) (hlo : lo ≤ w.heap.size) (hr0 : 0 ≤ r) (hs0 : 0 ≤ s) (hp0 : 0 ≤ p) (hsum : r + s + p ≤ 2147483647) (hx : r + s + p < x) (hx1 : x ≤ 2147483647)
    (hrm : hv = true → rd * pn = rm ∧ 0 ≤ rm ∧ rm ≤ 9223372032559808512 ∧ r + s ≤ rm) (hbs : hv = true → jn * pn = base ∧ 1 ≤ pn ∧ pn ≤ 2147483647 ∧ 0 ≤ jn ∧ jn ≤ 4294967296) (hm : fit hv rm r s (x - r - s) = m) (hu : u = x - r - s - m) (hk : askd hv pn base u = k) (hn2 : cnt n m = n2) (hnj2 : cnt nj k = nj2)
    (hS : PodsSt w lo Bp r s p n P Q np hv pn dl rd jn nj PJ QJ) :
    Calls Trym.prog 42 #[.pointer (some ⟨Bp, 0, none⟩), .int .i64 t, .int .i32 x] w (GrPost lo Bp n2 r s u (upd P n t) (upd Q n m) m k np hv pn dl rd jn nj2 (upd PJ nj t) (upd QJ nj k) w) := by
  have HS : Hid (PodsSt w lo Bp r s p n P Q np hv pn dl rd jn nj PJ QJ) := hS
  have HRM : Hid (hv = true → rd * pn = rm ∧ 0 ≤ rm ∧ rm ≤ 9223372032559808512 ∧ r + s ≤ rm) := hrm
  have HBS : Hid (hv = true → jn * pn = base ∧ 1 ≤ pn ∧ pn ≤ 2147483647 ∧ 0 ≤ jn ∧ jn ≤ 4294967296) := hbs
  have HM : Hid (fit hv rm r s (x - r - s) = m) := hm
  have HU : Hid (u = x - r - s - m) := hu
  have HK : Hid (askd hv pn base u = k) := hk
  have HN2 : Hid (cnt n m = n2) := hn2
  have HNJ2 : Hid (cnt nj k = nj2) := hnj2
  obtain ⟨m0, m1⟩ : 0 ≤ m ∧ m ≤ x - r - s := by rw [← hm]; exact fit_bd (by omega) (fun h => (hrm h).2.2.2)
  have u0 : 0 ≤ u := by omega
  have u1 : u ≤ 2147483647 := by omega
  have HB : Hid (∃ a, PodsBlk w Bp 88 r s p a n n np) := by
    obtain ⟨_, a, hB, _⟩ := hS
    exact ⟨a, hB⟩
  obtain ⟨a, hB⟩ := HB.out
  have HB1 : Hid (PodsBlk w Bp 88 r s p a n n np) := hB
  clear hS hrm hbs hm hu hk hn2 hnj2 hB HB
  have g1 : 0 < x - (r + s + p) := by omega
  go_enter Trym.func42, Trym.ntmps42
  go_wp2_with fail
  refine (exist_any Bp r s p a n n np w HB1.out hr0 hs0 hp0 hsum).mono ?_
  rintro e w1 ⟨rfl, q1, hw1⟩
  have HS1 : Hid (PodsSt w1 lo Bp r s p n P Q np hv pn dl rd jn nj PJ QJ) := by rw [hw1]; exact HS.out
  have hB1 : PodsBlk w1 Bp 88 r s p a n n np := by rw [hw1]; exact HB1.out
  have hb1 : Below lo w w1 := by rw [hw1]; exact below_drewN (Below.refl _ _) _
  have hs1 : lo ≤ w1.heap.size := Nat.le_trans hlo hb1.size
  obtain ⟨y0, y1, y2, y3, y4⟩ := hB1.cells
  have f2 := hB1.frozen 2
  have hl := HS.out.1
  clear hw1 y0 y1 y3 y4 hB1 HB1 HS
  go_wp2_with fail
  generalize hw2 : World.setCell w1 _ _ = w2
  have hpe : p + (x - (r + s + p)) = x - r - s := by omega
  have HS2 : Hid (PodsSt w2 lo Bp r s (x - r - s) n P Q np hv pn dl rd jn nj PJ QJ) := by
    rw [← hw2]
    first | exact st_pending HS1.out _ | (rw [hpe]; exact st_pending HS1.out _)
  have hb2 : Below lo w w2 := by rw [← hw2]; exact hb1.setCell (p := ⟨Bp, 2, none⟩) hl _
  have hs2 : lo ≤ w2.heap.size := Nat.le_trans hlo hb2.size
  clear hw2 y2 f2 HS1 hb1 hs1 hpe
  refine (place_any Bp lo r s (x - r - s) t n P Q np pn dl rd jn nj PJ QJ w2 hn hs2 hr0 hs0 (by omega) (by omega) hv rm HRM.out HS2.out).mono ?_
  rintro e w3 ⟨rfl, hS3, hb3⟩
  rw [HM.out, HN2.out, ← HU.out] at hS3
  have HS3 : Hid (PodsSt2 w3 lo Bp r (s + m) u n2 (upd P n t) (upd Q n m) np hv pn dl rd jn nj PJ QJ) := hS3
  have hb3' : Below lo w w3 := hb2.trans hb3
  clear hS3 hb3 hb2 hs2 HS2 HRM HM HU
  cases hv with
  | false =>
    have hS3 := HS3.out
    obtain ⟨_, a3, c3, hB3, hn3, hX3, h03, _⟩ := hS3
    obtain rfl := h03 rfl
    obtain ⟨y0, y1, y2, y3, y4⟩ := hB3.cells
    have hk0 : k = 0 := by have := HK.out; simp [askd] at this; omega
    subst hk0
    have HF : Hid (PodsR w3 Bp r (s + m) u n2 (upd P n t) (upd Q n m) none false pn dl rd (jn + 0) nj2 (upd PJ nj t) (upd QJ nj 0)) := ⟨a3, c3, hB3, hn3, hX3.prs, fun _ => rfl, fun h => by cases h⟩
    clear hB3 hn3 hX3 h03 y0 y1 y2 y3
    go_wp2
    go_ret
    exact ⟨rfl, HF.out, hb3'⟩
  | true =>
    have hS3 := HS3.out
    obtain ⟨_, a3, c3, hB3, hn3, hX3, h03, h13⟩ := hS3
    obtain ⟨Bn, aj, hnp, _⟩ := h13 rfl
    subst hnp
    obtain ⟨y0, y1, y2, y3, y4⟩ := hB3.cells
    obtain ⟨e1, e2, e3, e4, e5⟩ := HBS.out rfl
    have HE : Hid (jn * pn = base) := e1
    clear hB3 hn3 hX3 h03 h13 y0 y1 y3 e1
    have HSd : Hid (PodsSt2 w3.drew lo Bp r (s + m) u n2 (upd P n t) (upd Q n m) (some ⟨Bn, 0, none⟩) true pn dl rd jn nj PJ QJ) := HS3.out
    clear HS3
    go_wp2
    go_region_held3 (fun w' => w'.cell? ⟨Bp, 4, none⟩ = some (.pointer (some ⟨Bn, 0, none⟩)) ∧ w'.cell? ⟨Bp, 2, none⟩ = some (.int .i32 u)) (go_keep)
      ((go_at_call 35; refine (ask_pods lo Bp r (s + m) u t base k n2 nj nj2 (upd P n t) (upd Q n m) (some ⟨Bn, 0, none⟩) pn dl rd jn PJ QJ _ hnj e2 e3 e4 e5 HE.out (by omega) u1 HK.out HNJ2.out ?_).mono ?_; (exact HSd.out); rintro e w4 ⟨rfl, hR4, hb4⟩; obtain ⟨a4, c4, hB4, hr4⟩ := hR4; obtain ⟨z0, z1, z2, z3, z4⟩ := hB4.cells; clear z0 z1 z3))
    have HF : Hid (PodsR w4 Bp r (s + m) u n2 (upd P n t) (upd Q n m) (some ⟨Bn, 0, none⟩) true pn dl rd (jn + k) nj2 (upd PJ nj t) (upd QJ nj k)) := ⟨a4, c4, hB4, hr4⟩
    have hb4' : Below lo w w4 := hb3'.drew.trans hb4
    clear hB4 hr4 hb4 z2 z4
    go_wp2
    go_ret
    exact ⟨rfl, HF.out, hb4'⟩

end Go.Proofs.Qxb6601136aMods.Gr
