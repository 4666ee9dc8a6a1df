/- The contracts of clonePool, zzPool, zzPods. -/
import Derived.Test.Qxb6601136aModsPool2
import Derived.Deep.RegionHeld3
namespace Go.Proofs.Qxb6601136aMods.Conv
open Go.ChangeShapes Go.WideShapes Go.ChangeAt Go.RowKit
open Go.Proofs.Qxb6601136aMods.Mem Go.Proofs.Qxb6601136aMods.Pool Go.Proofs.Qxb6601136aMods.Pods
set_option linter.unusedSimpArgs false
set_option linter.unusedVariables false

theorem clone_nil (w : World) : Calls Trym.prog 20 #[.pointer none] w fun x w' => x = .returned (.pointer none) ∧ w = w' := by
  go_enter Trym.func20, Trym.ntmps20
  go_wp2
  go_ret
  exact ⟨rfl, rfl⟩

set_option maxHeartbeats 1000000 in
set_option maxRecDepth 100000 in
theorem clone_some (B off : Nat) (a : Option Addr) (n c : Nat) (pn dl rd jn : Int) (P Q : Nat → Int) (w : World) (hlen : n ≤ 1048576) (hp : PoolAt w B off pn dl rd a n c jn) (hnil : a = none → n = 0 ∧ c = 0) (hP : Prs .i64 w 0 a n P Q) :
    Calls Trym.prog 20 #[.pointer (some ⟨B, off, none⟩)] w fun e w' => ∃ a', e = .returned (.pointer (some ⟨w.heap.size, 0, none⟩)) ∧ PoolBlk w' w.heap.size 40 pn dl rd a' n n jn ∧ (a' = none → n = 0) ∧
      Prs .i64 w' (w.heap.size + 1) a' n P Q ∧ Below w.heap.size w w' := by
  obtain ⟨h0, h1, h2, h3, h4, h5⟩ := hp
  have HP : Hid (Prs .i64 w 0 a n P Q) := hP
  have HN : Hid (a = none → n = 0 ∧ c = 0) := hnil
  clear hP hnil
  go_enter Trym.func20, Trym.ntmps20
  go_wp2_with fail
  refine (cr_any a n c P Q _ hlen HN.out (HP.out.alloc _)).mono ?_
  rintro e w1 ⟨a1, rfl, hn1, hP1, hb1⟩
  have hB1 : PoolBlk w1 w.heap.size 40 pn dl rd a n c jn := (PoolBlk.new w 40 pn dl rd a n c jn).below hb1
  have HP1 : Hid (Prs .i64 w1 (w.heap.size + 1) a1 n P Q) := by rw [World.size_alloc] at hP1; exact hP1
  have HB1 : Hid (PoolBlk w1 w.heap.size 40 pn dl rd a n c jn) := hB1
  have HN1 : Hid (a1 = none → n = 0) := hn1
  have HBel : Hid (Below w.heap.size w w1) := ((Below.refl _ _).alloc (Nat.le_refl _) _).trans (hb1.mono (by simp))
  obtain ⟨e0, e1, e2, e3, e4, e5⟩ := hB1.at
  simp only [Nat.zero_add] at e4
  have f3 := hB1.frozen 3
  clear hB1 hP1 hn1 hb1 e1 e2 e3 e5 HP HN h1 h2 h3 h4 h5
  go_wp2
  go_ret
  exact ⟨a1, rfl, HB1.out.setJoining _ _ _, HN1.out, HP1.out.setOther (p := ⟨w.heap.size, 3, none⟩) (Nat.lt_succ_self _) _, HBel.out.setCell (Nat.le_refl _) _⟩

/-- clonePool: an optional pool of its own. -/
theorem clone_any (p : Option Addr) (hv : Bool) (n : Nat) (pn dl rd jn : Int) (P Q : Nat → Int) (w : World) (hlen : n ≤ 1048576) (h : NodesIn w p hv pn dl rd jn n P Q) :
    Calls Trym.prog 20 #[.pointer p] w fun e w' => ∃ p', e = .returned (.pointer p') ∧ Nodes w' w.heap.size 40 p' hv pn dl rd jn n P Q ∧ Below w.heap.size w w' := by
  cases hv with
  | false =>
    obtain rfl := h.1 rfl
    refine (clone_nil w).mono ?_
    rintro e w' ⟨rfl, rfl⟩
    exact ⟨none, rfl, ⟨fun _ => rfl, fun h => by cases h⟩, Below.refl _ _⟩
  | true =>
    obtain ⟨B, off, a, c, rfl, hp, hnil, hP⟩ := h.2 rfl
    refine (clone_some B off a n c pn dl rd jn P Q w hlen hp hnil hP).mono ?_
    rintro e w' ⟨a', rfl, hB, hn, hP', hbel⟩
    exact ⟨_, rfl, ⟨fun h => (by cases h), fun _ => ⟨w.heap.size, a', rfl, Nat.le_refl _, hB, hn, PrsX.ofPrs hP' (fun b hb _ => ⟨by omega, by omega⟩)⟩⟩, hbel⟩

theorem zpool_nil (w : World) : Calls Trym.prog 41 #[.pointer none] w fun x w' => x = .returned (.pointer none) ∧ w = w' := by
  go_enter Trym.func41, Trym.ntmps41
  go_wp2
  go_ret
  exact ⟨rfl, rfl⟩

set_option maxHeartbeats 2000000 in
set_option maxRecDepth 100000 in
theorem zpool_some (B : Nat) (a : Option Addr) (n c : Nat) (pn dl rd jn : Int) (P Q : Nat → Int) (w : World) (hlen : n ≤ 1048576) (hp : PoolAt w B 0 pn dl rd a n c jn) (hnil : a = none → n = 0 ∧ c = 0) (hP : Prs .i64 w 0 a n P Q) :
    Calls Trym.prog 41 #[.pointer (some ⟨B, 0, none⟩)] w fun e w' => ∃ B' a', e = .returned (.pointer (some ⟨B', 0, none⟩)) ∧ w.heap.size ≤ B' ∧ PoolBlk w' B' 27 pn dl rd a' n n jn ∧ (a' = none → n = 0) ∧
      PrsX .i64 w' (fun b => w.heap.size ≤ b ∧ b ≠ B') a' n P Q ∧ Below w.heap.size w w' := by
  have Hp : Hid (PoolAt w.drew B 0 pn dl rd a n c jn) := hp
  obtain ⟨h0, h1, h2, h3, h4, h5⟩ := hp
  simp only [Nat.zero_add] at h2 h3 h4 h5
  have HP : Hid (Prs .i64 w.drew 0 a n P Q) := hP
  have HN : Hid (a = none → n = 0 ∧ c = 0) := hnil
  clear hP hnil
  go_enter Trym.func41, Trym.ntmps41
  go_wp2
  go_region_held3 (fun w' => w'.cell? ⟨B, 0, none⟩ = some (.int .i64 pn) ∧ w'.cell? ⟨B, 1, none⟩ = some (.int .i64 dl) ∧ w'.cell? ⟨B, 2, none⟩ = some (.int .i64 rd) ∧ w'.cell? ⟨B, 3, none⟩ = some (.slice a n c) ∧ w'.cell? ⟨B, 4, none⟩ = some (.int .i64 jn)) (go_keep)
    ((go_at_call 12; refine (zr_any a n c P Q _ hlen HN.out ?_).mono ?_; (exact HP.out); rintro e w1 ⟨a1, rfl, hn1, hP1, hb1⟩; obtain ⟨e0, e1, e2, e3, e4, e5⟩ := Hp.out.below hb1; (simp only [Nat.zero_add] at e2 e3 e4 e5)))
  have HX : Hid (PrsX .i64 w1 (fun b => w.heap.size ≤ b ∧ b ≠ w1.heap.size) a1 n P Q) := PrsX.ofPrs hP1 (fun b hb hlt => ⟨hb, by omega⟩)
  have HN1 : Hid (a1 = none → n = 0) := hn1
  have hbel1 : Below w.heap.size w w1 := (Below.refl _ _).drew.trans hb1
  clear hP1 hn1 hb1 e0 e1 e2 e3 e4 e5 h1 h2 h3 h4 h5
  go_wp2
  go_ret
  exact ⟨w1.heap.size, a1, rfl, hbel1.size, PoolBlk.new _ _ _ _ _ _ _ _ _, HN1.out, HX.out.kept (fun b _ hb => Below.heap_alloc _ _ _ hb) (by simp), hbel1.alloc hbel1.size _⟩

/-- zzPool: an optional pool of its own. -/
theorem zpool_any (p : Option Addr) (hv : Bool) (n : Nat) (pn dl rd jn : Int) (P Q : Nat → Int) (w : World) (hlen : n ≤ 1048576) (h : NodesR w p hv pn dl rd jn n P Q) :
    Calls Trym.prog 41 #[.pointer p] w fun e w' => ∃ p', e = .returned (.pointer p') ∧ Nodes w' w.heap.size 27 p' hv pn dl rd jn n P Q ∧ Below w.heap.size w w' := by
  cases hv with
  | false =>
    obtain rfl := h.1 rfl
    refine (zpool_nil w).mono ?_
    rintro e w' ⟨rfl, rfl⟩
    exact ⟨none, rfl, ⟨fun _ => rfl, fun h => by cases h⟩, Below.refl _ _⟩
  | true =>
    obtain ⟨B, a, c, rfl, hp, hnil, hP⟩ := h.2 rfl
    refine (zpool_some B a n c pn dl rd jn P Q w hlen hp hnil hP).mono ?_
    rintro e w' ⟨B', a', rfl, hB, hb, hn, hP', hbel⟩
    exact ⟨_, rfl, ⟨fun h => (by cases h), fun _ => ⟨B', a', rfl, hB, hb, hn, hP'⟩⟩, hbel⟩

theorem nodes_kept {w w' : World} {lo : Nat} {t : TypeId} {p : Option Addr} {hv : Bool} {pn dl rd jn : Int} {n : Nat} {P Q : Nat → Int} (h : Nodes w lo t p hv pn dl rd jn n P Q) (hk : ∀ b, lo ≤ b → b < w.heap.size → w'.heap[b]? = w.heap[b]?) (hs : w.heap.size ≤ w'.heap.size) : Nodes w' lo t p hv pn dl rd jn n P Q := by
  refine ⟨h.1, fun ht => ?_⟩
  obtain ⟨B, a, hp, hl, hP, hn, hr⟩ := h.2 ht
  exact ⟨B, a, hp, hl, hP.block (hk B hl hP.lt), hn, hr.kept (fun b hb hlt => hk b hb.1 hlt) hs⟩

/-- Behind five stores into block R: the pods there; every other block is as it was. -/
theorem stored5 {w3 : World} {R : Nat} {t : TypeId} {a0 np0 : Option Addr} {n0 c0 : Nat} {r0 s0 p0 : Int} (r s p : Int) (a : Option Addr) (n c : Nat) (np : Option Addr) (hR0 : PodsBlk w3 R t r0 s0 p0 a0 n0 c0 np0) :
    ∃ W5, W5 = (((((w3.setCell ⟨R, 0, none⟩ (.int .i32 r)).setCell ⟨R, 1, none⟩ (.int .i32 s)).setCell ⟨R, 2, none⟩ (.int .i32 p)).setCell ⟨R, 3, none⟩ (.slice a n c)).setCell ⟨R, 4, none⟩ (.pointer np)) ∧
      PodsBlk W5 R t r s p a n c np ∧ W5.heap.size = w3.heap.size ∧ (∀ b, b ≠ R → W5.heap[b]? = w3.heap[b]?) ∧ ∀ w : World, Below w.heap.size w w3 → w.heap.size ≤ R → Below w.heap.size w W5 := by
  refine ⟨_, rfl, ?_, by simp, fun b hb => ?_, fun w hw hR => ?_⟩
  · unfold PodsBlk at hR0 ⊢
    simp [World.setCell, Array.getElem?_modify, hR0]
  · rw [Below.heap_setCell _ _ _ _ hb, Below.heap_setCell _ _ _ _ hb, Below.heap_setCell _ _ _ _ hb, Below.heap_setCell _ _ _ _ hb, Below.heap_setCell _ _ _ _ hb]
  · exact ((((hw.setCell (p := ⟨R, 0, none⟩) hR _).setCell (p := ⟨R, 1, none⟩) hR _).setCell (p := ⟨R, 2, none⟩) hR _).setCell (p := ⟨R, 3, none⟩) hR _).setCell (p := ⟨R, 4, none⟩) hR _

set_option maxHeartbeats 1000000 in
set_option maxRecDepth 100000 in
/-- zzPods. -/
theorem zpods_any (r s p : Int) (a : Option Addr) (n c : Nat) (P Q : Nat → Int) (np : Option Addr) (hv : Bool) (pn dl rd jn : Int) (nj : Nat) (PJ QJ : Nat → Int) (w : World) (hlen : n ≤ 1048576) (hlenj : nj ≤ 1048576)
    (hnil : a = none → n = 0 ∧ c = 0) (hP : Prs .i32 w 0 a n P Q) (hN : NodesR w np hv pn dl rd jn nj PJ QJ) :
    Calls Trym.prog 22 #[.int .i32 r, .int .i32 s, .int .i32 p, .slice a n c, .pointer np] w fun e w' => ∃ a' np', e = .returned (.agg #[.int .i32 r, .int .i32 s, .int .i32 p, .slice a' n n, .pointer np']) ∧ (a' = none → n = 0) ∧
      Prs .i32 w' 0 a' n P Q ∧ NodesR w' np' hv pn dl rd jn nj PJ QJ ∧ Below w.heap.size w w' := by
  have HP : Hid (Prs .i32 w 0 a n P Q) := hP
  have HN : Hid (NodesR w np hv pn dl rd jn nj PJ QJ) := hN
  have Hnil : Hid (a = none → n = 0 ∧ c = 0) := hnil
  clear hP hN hnil
  go_enter Trym.func22, Trym.ntmps22
  go_wp2_with fail
  refine (zc_any a n c P Q _ hlen Hnil.out (HP.out.alloc _)).mono ?_
  rintro e w1 ⟨a1, rfl, hn1, hP1, hb1⟩
  have HR1 : Hid (PodsBlk w1 w.heap.size 46 0 0 0 none 0 0 none) := (PodsBlk.new w 46 0 0 0 none 0 0 none).below hb1
  have HN1 : Hid (NodesR w1 np hv pn dl rd jn nj PJ QJ) := (HN.out.below ((Below.refl _ _).alloc (Nat.le_refl _) _)).below hb1
  have HP1 : Hid (Prs .i32 w1 (w.heap.size + 1) a1 n P Q) := by rw [World.size_alloc] at hP1; exact hP1
  have Hn1 : Hid (a1 = none → n = 0) := hn1
  have hbel1 : Below w.heap.size w w1 := ((Below.refl _ _).alloc (Nat.le_refl _) _).trans (hb1.mono (by simp))
  clear hP1 hn1 hb1 HP HN
  go_wp2_with fail
  refine (zpool_any np hv nj pn dl rd jn PJ QJ _ hlenj HN1.out).mono ?_
  rintro e w2 ⟨np2, rfl, hN2, hb2⟩
  have hR2 : PodsBlk w2 w.heap.size 46 0 0 0 none 0 0 none := HR1.out.below hb2
  have HN2 : Hid (Nodes w2 (w.heap.size + 1) 27 np2 hv pn dl rd jn nj PJ QJ) := hN2.mono HR1.out.lt
  have HP2 : Hid (Prs .i32 w2 (w.heap.size + 1) a1 n P Q) := HP1.out.below hb2
  have hbel2 : Below w.heap.size w w2 := hbel1.trans (hb2.mono hbel1.size)
  obtain ⟨c0, c1, c2, c3, c4⟩ := hR2.cells
  have fr := hR2.frozen
  have HR2 : Hid (PodsBlk w2 w.heap.size 46 0 0 0 none 0 0 none) := hR2
  clear hR2 hN2 hb2 HR1 HN1 HP1 hbel1
  go_wp2
  obtain ⟨W5, hW5, hB5, hs5, hk5, hb5⟩ := stored5 r s p a1 n n np2 HR2.out
  rw [← hW5]
  obtain ⟨q0, q1, q2, q3, q4⟩ := hB5.cells
  have hsz := HR2.out.lt
  refine bodyPost_ret (v := .agg #[.int .i32 r, .int .i32 s, .int .i32 p, .slice a1 n n, .pointer np2]) (by simp [results, Trym.results22, go_sem, q0, q1, q2, q3, q4]) rfl ?_
  exact ⟨a1, np2, rfl, Hn1.out, (HP2.out.block (fun b hb _ => hk5 b (by omega)) (by omega)).mono (Nat.zero_le _), (nodes_kept HN2.out (fun b hb _ => hk5 b (by omega)) (by omega)).toR, hb5 w hbel2 (Nat.le_refl _)⟩

end Go.Proofs.Qxb6601136aMods.Conv
