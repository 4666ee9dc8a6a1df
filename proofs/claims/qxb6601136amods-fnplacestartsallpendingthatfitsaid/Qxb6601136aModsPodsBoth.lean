/- The contracts of zzPodsIn, zzPodsOut. -/
import Derived.Test.Qxb6601136aModsConv
namespace Go.Proofs.Qxb6601136aMods.PodsBoth
open Go.ChangeShapes Go.WideShapes Go.ChangeAt Go.RowKit
open Go.Proofs.Qxb6601136aMods.Mem Go.Proofs.Qxb6601136aMods.Pool Go.Proofs.Qxb6601136aMods.Pods Go.Proofs.Qxb6601136aMods.Conv
set_option linter.unusedSimpArgs false
set_option linter.unusedVariables false

/-- Pods of the call's own, from lo on: their block, their cohorts' row, their pool and its row are apart from one another. -/
def PodsSt (w : World) (lo Bp : Nat) (r s p : Int) (n : Nat) (P Q : Nat → Int) (np : Option Addr) (hv : Bool) (pn dl rd jn : Int) (nj : Nat) (PJ QJ : Nat → Int) : Prop :=
  lo ≤ Bp ∧ ∃ a, PodsBlk w Bp 88 r s p a n n np ∧ (a = none → n = 0) ∧ PrsX .i32 w (fun b => lo ≤ b ∧ b ≠ Bp ∧ ∀ Bn, np = some ⟨Bn, 0, none⟩ → b ≠ Bn) a n P Q ∧ (hv = false → np = none) ∧
    (hv = true → ∃ Bn aj, np = some ⟨Bn, 0, none⟩ ∧ lo ≤ Bn ∧ Bn ≠ Bp ∧ PoolBlk w Bn 83 pn dl rd aj nj nj jn ∧ (aj = none → nj = 0) ∧ PrsX .i64 w (fun b => lo ≤ b ∧ b ≠ Bp ∧ b ≠ Bn) aj nj PJ QJ)

/-- Pods to be read. -/
def PodsR (w : World) (Bp : Nat) (r s p : Int) (n : Nat) (P Q : Nat → Int) (np : Option Addr) (hv : Bool) (pn dl rd jn : Int) (nj : Nat) (PJ QJ : Nat → Int) : Prop :=
  ∃ a c, PodsBlk w Bp 88 r s p a n c np ∧ (a = none → n = 0 ∧ c = 0) ∧ Prs .i32 w 0 a n P Q ∧ NodesR w np hv pn dl rd jn nj PJ QJ

theorem PodsSt.toR {w : World} {lo Bp : Nat} {r s p : Int} {n : Nat} {P Q : Nat → Int} {np : Option Addr} {hv : Bool} {pn dl rd jn : Int} {nj : Nat} {PJ QJ : Nat → Int} (h : PodsSt w lo Bp r s p n P Q np hv pn dl rd jn nj PJ QJ) : PodsR w Bp r s p n P Q np hv pn dl rd jn nj PJ QJ := by
  obtain ⟨_, a, hb, hn, hr, h0, h1⟩ := h
  refine ⟨a, n, hb, fun e => ⟨hn e, hn e⟩, hr.prs, h0, fun ht => ?_⟩
  obtain ⟨Bn, aj, hp, _, _, hB, hnj, hrj⟩ := h1 ht
  exact ⟨Bn, aj, nj, hp, hB.at, fun e => ⟨hnj e, hnj e⟩, hrj.prs⟩

/-- What zzPodsIn leaves, out of its parts. -/
theorem podsIn_st {w wr w2 : World} {a' np2 : Option Addr} {n : Nat} {P Q : Nat → Int} {hv : Bool} {r s p pn dl rd jn : Int} {nj : Nat} {PJ QJ : Nat → Int} (hbel : Below w.heap.size w wr) (hn : a' = none → n = 0)
    (hP : Prs .i32 wr w.heap.size a' n P Q) (hN : Nodes w2 wr.heap.size 83 np2 hv pn dl rd jn nj PJ QJ) (hb2 : Below wr.heap.size wr w2) :
    PodsSt (w2.alloc (.cells #[.int .i32 r, .int .i32 s, .int .i32 p, .slice a' n n, .pointer np2] 88)) w.heap.size w2.heap.size r s p n P Q np2 hv pn dl rd jn nj PJ QJ ∧
    Below w.heap.size w (w2.alloc (.cells #[.int .i32 r, .int .i32 s, .int .i32 p, .slice a' n n, .pointer np2] 88)) := by
  have s1 := hbel.size
  have s2 := hb2.size
  have hk : ∀ b, b < w2.heap.size → (w2.alloc (.cells #[.int .i32 r, .int .i32 s, .int .i32 p, .slice a' n n, .pointer np2] 88)).heap[b]? = w2.heap[b]? := fun b hb => Below.heap_alloc _ _ _ hb
  refine ⟨⟨by omega, a', PodsBlk.new _ _ _ _ _ _ _ _ _, hn, ?_, hN.1, fun ht => ?_⟩, (hbel.trans (hb2.mono s1)).alloc (by omega) _⟩
  · have hX : PrsX .i32 wr (fun b => w.heap.size ≤ b ∧ b < wr.heap.size) a' n P Q := PrsX.ofPrs hP (fun b hb hlt => ⟨hb, hlt⟩)
    refine ((hX.kept (fun b _ hlt => hb2.block b hlt) s2).kept (w' := w2.alloc _) (fun b _ hlt => hk b hlt) (by simp)).okTo (fun b hb hlt => ⟨hb.1, by omega, fun Bn hBn => ?_⟩)
    cases hv with
    | false => have := hN.1 rfl; rw [this] at hBn; cases hBn
    | true =>
      obtain ⟨B, aj, hp, hl, _⟩ := hN.2 rfl
      rw [hp] at hBn
      simp at hBn
      omega
  · obtain ⟨B, aj, hp, hl, hB, hnj, hr⟩ := hN.2 ht
    have hX : PrsX .i64 w2 (fun b => w.heap.size ≤ b ∧ b ≠ w2.heap.size ∧ b ≠ B) aj nj PJ QJ := hr.okTo (fun b hb hlt => ⟨by omega, by omega, hb.2⟩)
    exact ⟨B, aj, hp, by omega, by have := hB.lt; omega, hB.block (hk B hB.lt), hnj, hX.kept (fun b _ hlt => hk b hlt) (by simp)⟩

set_option maxHeartbeats 2000000 in
set_option maxRecDepth 100000 in
theorem pin_bare (r s p : Int) (P Q : Nat → Int) (np : Option Addr) (hv : Bool) (pn dl rd jn : Int) (nj : Nat) (PJ QJ : Nat → Int) (w : World) (hlenj : nj ≤ 1048576) (hN : NodesR w np hv pn dl rd jn nj PJ QJ) :
    Calls Trym.prog 37 #[.agg #[.int .i32 r, .int .i32 s, .int .i32 p, .slice none 0 0, .pointer np]] w fun e w' => ∃ Bp np', e = .returned (.pointer (some ⟨Bp, 0, none⟩)) ∧ PodsSt w' w.heap.size Bp r s p 0 P Q np' hv pn dl rd jn nj PJ QJ ∧ Below w.heap.size w w' := by
  obtain ⟨w1, hw1⟩ : ∃ w1, w1 = w.alloc (.cells #[.int .i32 r, .int .i32 s, .int .i32 p, .slice none 0 0, .pointer np] 46) := ⟨_, rfl⟩
  have HZ : Hid (PodsBlk w1.drew w.heap.size 46 r s p none 0 0 np) := by rw [hw1]; exact PodsBlk.new w 46 r s p none 0 0 np
  have HN1 : Hid (NodesR w1.drew np hv pn dl rd jn nj PJ QJ) := by rw [hw1]; exact (hN.below ((Below.refl _ _).alloc (Nat.le_refl _) _)).drew
  have hbel1 : Below w.heap.size w w1 := by rw [hw1]; exact (Below.refl _ _).alloc (Nat.le_refl _) _
  have HP1 : Hid (Prs .i32 w1 w.heap.size none 0 P Q) := Prs.zero _ _ _ _ _ _
  have HW : Hid (w1 = w.alloc (.cells #[.int .i32 r, .int .i32 s, .int .i32 p, .slice none 0 0, .pointer np] 46)) := hw1
  obtain ⟨z0, z1, z2, z3, z4⟩ : w1.cell? ⟨w.heap.size, 0, none⟩ = some (.int .i32 r) ∧ w1.cell? ⟨w.heap.size, 1, none⟩ = some (.int .i32 s) ∧ w1.cell? ⟨w.heap.size, 2, none⟩ = some (.int .i32 p) ∧ w1.cell? ⟨w.heap.size, 3, none⟩ = some (.slice none 0 0) ∧ w1.cell? ⟨w.heap.size, 4, none⟩ = some (.pointer np) := HZ.out.cells
  clear hw1 hN
  have he := fun w => run_neq_slice_nil_any (P := Trym.prog) w 44 77 none 0 0 0 0 Trym.underlying44
  go_enter Trym.func37, Trym.ntmps37
  go_wp2
  rw [← HW.out]
  go_region_held3 (fun w' => w'.cell? ⟨w.heap.size, 0, none⟩ = some (.int .i32 r) ∧ w'.cell? ⟨w.heap.size, 1, none⟩ = some (.int .i32 s) ∧ w'.cell? ⟨w.heap.size, 2, none⟩ = some (.int .i32 p) ∧ w'.cell? ⟨w.heap.size, 4, none⟩ = some (.pointer np)) (go_keep)
    ((go_at_call 34; refine (Pool2.pin_any np hv nj pn dl rd jn PJ QJ _ hlenj ?_).mono ?_; (exact HN1.out); rintro e w2 ⟨np2, rfl, hN2, hb2⟩; obtain ⟨e0, e1, e2, e3, e4⟩ := (HZ.out.below hb2).cells))
  have hN2' : Nodes w2 w1.heap.size 83 np2 hv pn dl rd jn nj PJ QJ := hN2
  have hb2' : Below w1.heap.size w1 w2 := (Below.refl _ w1).drew.trans hb2
  have HF : Hid _ := podsIn_st (r := r) (s := s) (p := p) hbel1 (a' := none) (n := 0) (fun _ => rfl) HP1.out hN2' hb2'
  clear hN2 hb2 hN2' hb2' e0 e1 e2 e3 e4
  go_wp2
  go_ret
  exact ⟨w2.heap.size, np2, rfl, HF.out.1, HF.out.2⟩

set_option maxHeartbeats 2000000 in
set_option maxRecDepth 100000 in
theorem pin_some (r s p : Int) (x : Addr) (n c : Nat) (P Q : Nat → Int) (np : Option Addr) (hv : Bool) (pn dl rd jn : Int) (nj : Nat) (PJ QJ : Nat → Int) (w : World) (hlen : n ≤ 1048576) (hlenj : nj ≤ 1048576) (hP : Prs .i32 w 0 (some x) n P Q) (hN : NodesR w np hv pn dl rd jn nj PJ QJ) :
    Calls Trym.prog 37 #[.agg #[.int .i32 r, .int .i32 s, .int .i32 p, .slice (some x) n c, .pointer np]] w fun e w' => ∃ Bp np', e = .returned (.pointer (some ⟨Bp, 0, none⟩)) ∧ PodsSt w' w.heap.size Bp r s p n P Q np' hv pn dl rd jn nj PJ QJ ∧ Below w.heap.size w w' := by
  have HP : Hid (Prs .i32 w 0 (some x) n P Q) := hP
  have HN : Hid (NodesR w np hv pn dl rd jn nj PJ QJ) := hN
  clear hP hN
  have he := fun w => run_neq_slice_nil_any (P := Trym.prog) w 44 77 (some x) n c 0 0 Trym.underlying44
  have hmk := run_make_k (P := Trym.prog) 84 86 _ 2 16 Trym.underlying84 info86 .i64 .i64 n (by omega) (by omega)
  go_enter Trym.func37, Trym.ntmps37
  go_wp2
  clear he hmk
  have h0 : Hid (Below w.heap.size w ((w.alloc (.cells #[.int .i32 r, .int .i32 s, .int .i32 p, .slice (some x) n c, .pointer np] 46)).alloc (.cells (madeCells (Value.agg #[.int .i64 0, .int .i32 0]).cells (n * 2)) 86)) ∧
      PodsBlk ((w.alloc (.cells #[.int .i32 r, .int .i32 s, .int .i32 p, .slice (some x) n c, .pointer np] 46)).alloc (.cells (madeCells (Value.agg #[.int .i64 0, .int .i32 0]).cells (n * 2)) 86)) w.heap.size 46 r s p (some x) n c np ∧
      PRow .i32 ((w.alloc (.cells #[.int .i32 r, .int .i32 s, .int .i32 p, .slice (some x) n c, .pointer np] 46)).alloc (.cells (madeCells (Value.agg #[.int .i64 0, .int .i32 0]).cells (n * 2)) 86)) (w.heap.size + 1) 86 n 0 P Q) := by
    refine ⟨by go_grown, (PodsBlk.new w 46 r s p (some x) n c np).alloc _, ?_⟩
    have := PRow.made .i32 (w.alloc (.cells #[.int .i32 r, .int .i32 s, .int .i32 p, .slice (some x) n c, .pointer np] 46)) (Value.agg #[.int .i64 0, .int .i32 0]).cells 86 n P Q
    rw [World.size_alloc] at this
    exact this
  go_loopg [4, 15] n (fun g _ i wr => ∃ k : Nat, k ≤ n ∧ g = n - k ∧ i = .int .i64 k ∧ Below w.heap.size w wr ∧ Hid (PodsBlk wr w.heap.size 46 r s p (some x) n c np) ∧ PRow .i32 wr (w.heap.size + 1) 86 n k P Q)
  case atStart => exact ⟨0, Nat.zero_le _, rfl, rfl, h0.out.1, h0.out.2.1, h0.out.2.2⟩
  case round =>
    obtain ⟨k, hk, rfl, rfl, hbel, hZ, hrow⟩ := hrel
    clear h0
    obtain ⟨z0, z1, z2, z3, z4⟩ := hZ.out.cells
    by_cases hlt : k < n
    · obtain ⟨b, off, hx, _, hbw, hc⟩ := HP.out (by omega)
      obtain rfl := Option.some.inj hx
      have g1 : wr.cell? ⟨b, off + k * 2, none⟩ = some (.int .i64 (P k)) := (hbel.cell (p := ⟨b, off + k * 2, none⟩) hbw).trans (hc k hlt).1
      have g2 : wr.cell? ⟨b, off + (k * 2 + 1), none⟩ = some (.int .i32 (Q k)) := (hbel.cell (p := ⟨b, off + (k * 2 + 1), none⟩) hbw).trans (hc k hlt).2
      have g2' : wr.cell? ⟨b, off + k * 2 + 1, none⟩ = some (.int .i32 (Q k)) := g2
      obtain ⟨v, v', g3, g4⟩ := hrow.ex hlt
      have f3 : wr.frozen? ⟨w.heap.size + 1, k * 2, none⟩ = false := hrow.frozen _
      have f4 : wr.frozen? ⟨w.heap.size + 1, k * 2 + 1, none⟩ = false := hrow.frozen _
      have i1 : (k : Int) < (n : Int) := by omega
      clear hc hx z0 z1 z2 z4
      go_wp2
      go_region
      all_goals go_wp2
      all_goals go_roundg (n - (k + 1))
      case measure => omega
      case rel => exact ⟨k + 1, by omega, rfl, by go_num, ((hbel.setCell (Nat.le_succ _) _).setCell (Nat.le_succ _) _).drew, ((hZ.out.block (Below.heap_setCell _ _ _ _ (Nat.ne_of_lt (Nat.lt_succ_self _)))).block (Below.heap_setCell _ _ _ _ (Nat.ne_of_lt (Nat.lt_succ_self _)))), (hrow.next hlt).drew⟩
    · have hkn : k = n := by omega
      subst hkn
      have HZ : Hid (PodsBlk wr.drew w.heap.size 46 r s p (some x) k c np) := hZ.out
      have HN1 : Hid (NodesR wr.drew np hv pn dl rd jn nj PJ QJ) := (HN.out.below hbel).drew
      have hbel1 := hbel
      have HP1 : Hid (Prs .i32 wr w.heap.size (some ⟨w.heap.size + 1, 0, none⟩) k P Q) := hrow.prs (Nat.le_succ _)
      have Hnil1 : Hid ((some ⟨w.heap.size + 1, 0, none⟩ : Option Addr) = none → k = 0) := fun h => by cases h
      clear hrow hZ HN HP hbel
      go_wp2
      go_region_held3 (fun w' => w'.cell? ⟨w.heap.size, 0, none⟩ = some (.int .i32 r) ∧ w'.cell? ⟨w.heap.size, 1, none⟩ = some (.int .i32 s) ∧ w'.cell? ⟨w.heap.size, 2, none⟩ = some (.int .i32 p) ∧ w'.cell? ⟨w.heap.size, 4, none⟩ = some (.pointer np)) (go_keep)
        ((go_at_call 34; refine (Pool2.pin_any np hv nj pn dl rd jn PJ QJ _ hlenj ?_).mono ?_; (exact HN1.out); rintro e w2 ⟨np2, rfl, hN2, hb2⟩; obtain ⟨e0, e1, e2, e3, e4⟩ := (HZ.out.below hb2).cells))
      have hN2' : Nodes w2 wr.heap.size 83 np2 hv pn dl rd jn nj PJ QJ := hN2
      have hb2' : Below wr.heap.size wr w2 := (Below.refl _ wr).drew.trans hb2
      have HF : Hid _ := podsIn_st (r := r) (s := s) (p := p) hbel1 Hnil1.out HP1.out hN2' hb2'
      clear hN2 hb2 hN2' hb2' e0 e1 e2 e3 e4
      go_wp2
      go_ret
      exact ⟨w2.heap.size, np2, rfl, HF.out.1, HF.out.2⟩

/-- zzPodsIn: pods of its own. -/
theorem pin_any (r s p : Int) (a : Option Addr) (n c : Nat) (P Q : Nat → Int) (np : Option Addr) (hv : Bool) (pn dl rd jn : Int) (nj : Nat) (PJ QJ : Nat → Int) (w : World) (hlen : n ≤ 1048576) (hlenj : nj ≤ 1048576) (hnil : a = none → n = 0 ∧ c = 0) (hP : Prs .i32 w 0 a n P Q) (hN : NodesR w np hv pn dl rd jn nj PJ QJ) :
    Calls Trym.prog 37 #[.agg #[.int .i32 r, .int .i32 s, .int .i32 p, .slice a n c, .pointer np]] w fun e w' => ∃ Bp np', e = .returned (.pointer (some ⟨Bp, 0, none⟩)) ∧ PodsSt w' w.heap.size Bp r s p n P Q np' hv pn dl rd jn nj PJ QJ ∧ Below w.heap.size w w' := by
  cases a with
  | none =>
    obtain ⟨rfl, rfl⟩ := hnil rfl
    exact pin_bare r s p P Q np hv pn dl rd jn nj PJ QJ w hlenj hN
  | some x => exact pin_some r s p x n c P Q np hv pn dl rd jn nj PJ QJ w hlen hlenj hP hN

set_option maxHeartbeats 2000000 in
set_option maxRecDepth 100000 in
theorem pout_bare (Bp : Nat) (r s p : Int) (n : Nat) (P Q : Nat → Int) (np : Option Addr) (hv : Bool) (pn dl rd jn : Int) (nj : Nat) (PJ QJ : Nat → Int) (w : World) (hlenj : nj ≤ 1048576) (hB : PodsBlk w Bp 88 r s p none 0 0 np) (hn0 : n = 0) (hN : NodesR w np hv pn dl rd jn nj PJ QJ) :
    Calls Trym.prog 39 #[.pointer (some ⟨Bp, 0, none⟩)] w fun e w' => ∃ a' np', e = .returned (.agg #[.int .i32 r, .int .i32 s, .int .i32 p, .slice a' n n, .pointer np']) ∧ (a' = none → n = 0) ∧
      Prs .i32 w' w.heap.size a' n P Q ∧ Nodes w' w.heap.size 27 np' hv pn dl rd jn nj PJ QJ ∧ Below w.heap.size w w' := by
  subst hn0
  obtain ⟨w1, hw1⟩ : ∃ w1, w1 = w.alloc (.cells #[.int .i32 0, .int .i32 0, .int .i32 0, .slice none 0 0, .pointer none] 46) := ⟨_, rfl⟩
  have HR : Hid (PodsBlk w1.drew w.heap.size 46 0 0 0 none 0 0 none) := by rw [hw1]; exact PodsBlk.new w 46 0 0 0 none 0 0 none
  have HB : Hid (PodsBlk w1.drew Bp 88 r s p none 0 0 np) := by rw [hw1]; exact hB.alloc _
  have HN1 : Hid (NodesR w1.drew np hv pn dl rd jn nj PJ QJ) := by rw [hw1]; exact (hN.below ((Below.refl _ _).alloc (Nat.le_refl _) _)).drew
  have hbel1 : Below w.heap.size w w1.drew := by rw [hw1]; exact ((Below.refl _ _).alloc (Nat.le_refl _) _).drew
  have HP1 : Hid (Prs .i32 w1.drew (w.heap.size + 1) none 0 P Q) := Prs.zero _ _ _ _ _ _
  have HW : Hid (w1 = w.alloc (.cells #[.int .i32 0, .int .i32 0, .int .i32 0, .slice none 0 0, .pointer none] 46)) := hw1
  obtain ⟨z0, z1, z2, z3, z4⟩ : w1.cell? ⟨Bp, 0, none⟩ = some (.int .i32 r) ∧ w1.cell? ⟨Bp, 1, none⟩ = some (.int .i32 s) ∧ w1.cell? ⟨Bp, 2, none⟩ = some (.int .i32 p) ∧ w1.cell? ⟨Bp, 3, none⟩ = some (.slice none 0 0) ∧ w1.cell? ⟨Bp, 4, none⟩ = some (.pointer np) := HB.out.cells
  have hlt := hB.lt
  obtain ⟨y0, y1, y2, y3, y4⟩ := hB.cells
  clear hw1 hN hB
  have he := fun w => run_neq_slice_nil_any (P := Trym.prog) w 84 86 none 0 0 0 0 Trym.underlying84
  go_enter Trym.func39, Trym.ntmps39
  go_wp2
  rw [← HW.out]
  clear he y0 y1 y2 y3 y4
  have hfar : ∀ (W : World) (i : Nat) (v : Value) (j : Nat), (W.setCell ⟨w.heap.size, i, none⟩ v).cell? ⟨Bp, j, none⟩ = W.cell? ⟨Bp, j, none⟩ := fun W i v j => World.cell?_of_block (w := W) (a := ⟨Bp, j, none⟩) (Below.heap_setCell W ⟨w.heap.size, i, none⟩ v Bp (Nat.ne_of_lt hlt))
  go_region_held3 (fun w' => w'.cell? ⟨Bp, 0, none⟩ = some (.int .i32 r) ∧ w'.cell? ⟨Bp, 1, none⟩ = some (.int .i32 s) ∧ w'.cell? ⟨Bp, 2, none⟩ = some (.int .i32 p) ∧ w'.cell? ⟨Bp, 4, none⟩ = some (.pointer np)) (go_keep)
    ((go_at_call 36; refine (Pool2.pout_any np hv nj pn dl rd jn PJ QJ _ hlenj ?_).mono ?_; (exact HN1.out); rintro e w2 ⟨np2, rfl, hN2, hb2⟩; obtain ⟨e0, e1, e2, e3, e4⟩ := (HB.out.below hb2).cells; (have hR2 := HR.out.below hb2); obtain ⟨r0, r1, r2, r3, r4⟩ := hR2.cells; (have fr := hR2.frozen)))
  have HN2 : Hid (Nodes w2 (w.heap.size + 1) 27 np2 hv pn dl rd jn nj PJ QJ) := hN2.mono HR.out.lt
  have HP2 : Hid (Prs .i32 w2 (w.heap.size + 1) none 0 P Q) := HP1.out.below hb2
  have hbel2 : Below w.heap.size w w2 := hbel1.trans (hb2.mono hbel1.size)
  have HR2 : Hid (PodsBlk w2 w.heap.size 46 0 0 0 none 0 0 none) := hR2
  clear hN2 hb2 hR2 e0 e1 e2 e3 e4 r0 r1 r2 r3 r4 fr
  go_wp2
  obtain ⟨W5, hW5, hB5, hs5, hk5, hb5⟩ := stored5 r s p none 0 0 np2 HR2.out
  rw [← hW5]
  obtain ⟨q0, q1, q2, q3, q4⟩ := hB5.cells
  have hsz := HR2.out.lt
  refine bodyPost_ret (v := .agg #[.int .i32 r, .int .i32 s, .int .i32 p, .slice none 0 0, .pointer np2]) (by simp [results, Trym.results39, go_sem, q0, q1, q2, q3, q4]) rfl ?_
  exact ⟨none, np2, rfl, (by simp), (HP2.out.block (fun b hb _ => hk5 b (by omega)) (by omega)).mono (Nat.le_succ _), (nodes_kept HN2.out (fun b hb _ => hk5 b (by omega)) (by omega)).mono (Nat.le_succ _), hb5 w hbel2 (Nat.le_refl _)⟩

set_option maxHeartbeats 2000000 in
set_option maxRecDepth 100000 in
theorem pout_some (Bp : Nat) (r s p : Int) (x : Addr) (n c : Nat) (P Q : Nat → Int) (np : Option Addr) (hv : Bool) (pn dl rd jn : Int) (nj : Nat) (PJ QJ : Nat → Int) (w : World) (hlen : n ≤ 1048576) (hlenj : nj ≤ 1048576) (hB : PodsBlk w Bp 88 r s p (some x) n c np) (hP : Prs .i32 w 0 (some x) n P Q) (hN : NodesR w np hv pn dl rd jn nj PJ QJ) :
    Calls Trym.prog 39 #[.pointer (some ⟨Bp, 0, none⟩)] w fun e w' => ∃ a' np', e = .returned (.agg #[.int .i32 r, .int .i32 s, .int .i32 p, .slice a' n n, .pointer np']) ∧ (a' = none → n = 0) ∧
      Prs .i32 w' w.heap.size a' n P Q ∧ Nodes w' w.heap.size 27 np' hv pn dl rd jn nj PJ QJ ∧ Below w.heap.size w w' := by
  have HP : Hid (Prs .i32 w 0 (some x) n P Q) := hP
  have HN : Hid (NodesR w np hv pn dl rd jn nj PJ QJ) := hN
  have HB0 : Hid (PodsBlk w Bp 88 r s p (some x) n c np) := hB
  have hBlt := hB.lt
  obtain ⟨y0, y1, y2, y3, y4⟩ := hB.cells
  have y3' : ∀ o, (w.alloc o).cell? ⟨Bp, 3, none⟩ = some (.slice (some x) n c) := fun o => (hB.alloc o).cells.2.2.2.1
  have y3'' : ∀ o o', ((w.alloc o).alloc o').cell? ⟨Bp, 3, none⟩ = some (.slice (some x) n c) := fun o o' => ((hB.alloc o).alloc o').cells.2.2.2.1
  clear hP hN hB
  have he := fun w => run_neq_slice_nil_any (P := Trym.prog) w 84 86 (some x) n c 0 0 Trym.underlying84
  have hmk := run_make_k (P := Trym.prog) 44 77 _ 2 16 Trym.underlying44 info77 .i64 .i64 n (by omega) (by omega)
  go_enter Trym.func39, Trym.ntmps39
  go_wp2
  clear he hmk y0 y1 y2 y3 y4 y3' y3''
  have h0 : Hid (Below w.heap.size w ((w.alloc (.cells #[.int .i32 0, .int .i32 0, .int .i32 0, .slice none 0 0, .pointer none] 46)).alloc (.cells (madeCells (Value.agg #[.int .i64 0, .int .i32 0]).cells (n * 2)) 77)) ∧
      PodsBlk ((w.alloc (.cells #[.int .i32 0, .int .i32 0, .int .i32 0, .slice none 0 0, .pointer none] 46)).alloc (.cells (madeCells (Value.agg #[.int .i64 0, .int .i32 0]).cells (n * 2)) 77)) w.heap.size 46 0 0 0 none 0 0 none ∧
      PRow .i32 ((w.alloc (.cells #[.int .i32 0, .int .i32 0, .int .i32 0, .slice none 0 0, .pointer none] 46)).alloc (.cells (madeCells (Value.agg #[.int .i64 0, .int .i32 0]).cells (n * 2)) 77)) (w.heap.size + 1) 77 n 0 P Q) := by
    refine ⟨by go_grown, (PodsBlk.new w 46 0 0 0 none 0 0 none).alloc _, ?_⟩
    have := PRow.made .i32 (w.alloc (.cells #[.int .i32 0, .int .i32 0, .int .i32 0, .slice none 0 0, .pointer none] 46)) (Value.agg #[.int .i64 0, .int .i32 0]).cells 77 n P Q
    rw [World.size_alloc] at this
    exact this
  go_loopg [4, 21] n (fun g _ i wr => ∃ k : Nat, k ≤ n ∧ g = n - k ∧ i = .int .i64 k ∧ Below w.heap.size w wr ∧ Hid (PodsBlk wr w.heap.size 46 0 0 0 none 0 0 none) ∧ PRow .i32 wr (w.heap.size + 1) 77 n k P Q)
  case atStart => exact ⟨0, Nat.zero_le _, rfl, rfl, h0.out.1, h0.out.2.1, h0.out.2.2⟩
  case round =>
    obtain ⟨k, hk, rfl, rfl, hbel, hR, hrow⟩ := hrel
    clear h0
    obtain ⟨z0, z1, z2, z3, z4⟩ := (HB0.out.below hbel).cells
    by_cases hlt : k < n
    · obtain ⟨b, off, hx, _, hbw, hc⟩ := HP.out (by omega)
      obtain rfl := Option.some.inj hx
      have g1 : wr.cell? ⟨b, off + k * 2, none⟩ = some (.int .i64 (P k)) := (hbel.cell (p := ⟨b, off + k * 2, none⟩) hbw).trans (hc k hlt).1
      have g2 : wr.cell? ⟨b, off + (k * 2 + 1), none⟩ = some (.int .i32 (Q k)) := (hbel.cell (p := ⟨b, off + (k * 2 + 1), none⟩) hbw).trans (hc k hlt).2
      have g2' : wr.cell? ⟨b, off + k * 2 + 1, none⟩ = some (.int .i32 (Q k)) := g2
      obtain ⟨v, v', g3, g4⟩ := hrow.ex hlt
      have f3 : wr.frozen? ⟨w.heap.size + 1, k * 2, none⟩ = false := hrow.frozen _
      have f4 : wr.frozen? ⟨w.heap.size + 1, k * 2 + 1, none⟩ = false := hrow.frozen _
      have i1 : (k : Int) < (n : Int) := by omega
      clear hc hx z0 z1 z2 z4
      go_wp2
      go_region
      all_goals go_wp2
      all_goals go_roundg (n - (k + 1))
      case measure => omega
      case rel => exact ⟨k + 1, by omega, rfl, by go_num, ((hbel.setCell (Nat.le_succ _) _).setCell (Nat.le_succ _) _).drew, ((hR.out.block (Below.heap_setCell _ _ _ _ (Nat.ne_of_lt (Nat.lt_succ_self _)))).block (Below.heap_setCell _ _ _ _ (Nat.ne_of_lt (Nat.lt_succ_self _)))), (hrow.next hlt).drew⟩
    · have hkn : k = n := by omega
      subst hkn
      have HR : Hid (PodsBlk wr.drew w.heap.size 46 0 0 0 none 0 0 none) := hR.out
      have HB : Hid (PodsBlk wr.drew Bp 88 r s p (some x) k c np) := HB0.out.below hbel.drew
      have HN1 : Hid (NodesR wr.drew np hv pn dl rd jn nj PJ QJ) := (HN.out.below hbel).drew
      have hbel1 : Below w.heap.size w wr.drew := hbel.drew
      have HP1 : Hid (Prs .i32 wr.drew (w.heap.size + 1) (some ⟨w.heap.size + 1, 0, none⟩) k P Q) := hrow.prs (Nat.le_refl _)
      clear hrow hR HN HP hbel
      go_wp2
      have hfar : ∀ (W : World) (i : Nat) (v : Value) (j : Nat), (W.setCell ⟨w.heap.size, i, none⟩ v).cell? ⟨Bp, j, none⟩ = W.cell? ⟨Bp, j, none⟩ := fun W i v j => World.cell?_of_block (w := W) (a := ⟨Bp, j, none⟩) (Below.heap_setCell W ⟨w.heap.size, i, none⟩ v Bp (Nat.ne_of_lt hBlt))
      go_region_held3 (fun w' => w'.cell? ⟨Bp, 0, none⟩ = some (.int .i32 r) ∧ w'.cell? ⟨Bp, 1, none⟩ = some (.int .i32 s) ∧ w'.cell? ⟨Bp, 2, none⟩ = some (.int .i32 p) ∧ w'.cell? ⟨Bp, 4, none⟩ = some (.pointer np)) (go_keep)
        ((go_at_call 36; refine (Pool2.pout_any np hv nj pn dl rd jn PJ QJ _ hlenj ?_).mono ?_; (exact HN1.out); rintro e w2 ⟨np2, rfl, hN2, hb2⟩; obtain ⟨e0, e1, e2, e3, e4⟩ := (HB.out.below hb2).cells; (have hR2 := HR.out.below hb2); obtain ⟨r0, r1, r2, r3, r4⟩ := hR2.cells; (have fr := hR2.frozen)))
      have HN2 : Hid (Nodes w2 (w.heap.size + 1) 27 np2 hv pn dl rd jn nj PJ QJ) := hN2.mono HR.out.lt
      have HP2 : Hid (Prs .i32 w2 (w.heap.size + 1) (some ⟨w.heap.size + 1, 0, none⟩) k P Q) := HP1.out.below hb2
      have hbel2 : Below w.heap.size w w2 := hbel1.trans (hb2.mono hbel1.size)
      have HR2 : Hid (PodsBlk w2 w.heap.size 46 0 0 0 none 0 0 none) := hR2
      clear hN2 hb2 hR2 e0 e1 e2 e3 e4 r0 r1 r2 r3 r4 fr
      go_wp2
      obtain ⟨W5, hW5, hB5, hs5, hk5, hb5⟩ := stored5 r s p (some ⟨w.heap.size + 1, 0, none⟩) k k np2 HR2.out
      rw [← hW5]
      obtain ⟨q0, q1, q2, q3, q4⟩ := hB5.cells
      have hsz := HR2.out.lt
      refine bodyPost_ret (v := .agg #[.int .i32 r, .int .i32 s, .int .i32 p, .slice (some ⟨w.heap.size + 1, 0, none⟩) k k, .pointer np2]) (by simp [results, Trym.results39, go_sem, q0, q1, q2, q3, q4]) rfl ?_
      exact ⟨some ⟨w.heap.size + 1, 0, none⟩, np2, rfl, (fun h => by cases h), (HP2.out.block (fun b hb _ => hk5 b (by omega)) (by omega)).mono (Nat.le_succ _), (nodes_kept HN2.out (fun b hb _ => hk5 b (by omega)) (by omega)).mono (Nat.le_succ _), hb5 w hbel2 (Nat.le_refl _)⟩

/-- zzPodsOut: a value of its own. -/
theorem pout_any (Bp : Nat) (r s p : Int) (n : Nat) (P Q : Nat → Int) (np : Option Addr) (hv : Bool) (pn dl rd jn : Int) (nj : Nat) (PJ QJ : Nat → Int) (w : World) (hlen : n ≤ 1048576) (hlenj : nj ≤ 1048576) (h : PodsR w Bp r s p n P Q np hv pn dl rd jn nj PJ QJ) :
    Calls Trym.prog 39 #[.pointer (some ⟨Bp, 0, none⟩)] w fun e w' => ∃ a' np', e = .returned (.agg #[.int .i32 r, .int .i32 s, .int .i32 p, .slice a' n n, .pointer np']) ∧ (a' = none → n = 0) ∧
      Prs .i32 w' w.heap.size a' n P Q ∧ Nodes w' w.heap.size 27 np' hv pn dl rd jn nj PJ QJ ∧ Below w.heap.size w w' := by
  obtain ⟨a, c, hB, hnil, hP, hN⟩ := h
  cases a with
  | none =>
    obtain ⟨h0, rfl⟩ := hnil rfl
    exact pout_bare Bp r s p n P Q np hv pn dl rd jn nj PJ QJ w hlenj (by rw [h0] at hB; exact hB) h0 hN
  | some x => exact pout_some Bp r s p x n c P Q np hv pn dl rd jn nj PJ QJ w hlen hlenj hB hP hN

end Go.Proofs.Qxb6601136aMods.PodsBoth
