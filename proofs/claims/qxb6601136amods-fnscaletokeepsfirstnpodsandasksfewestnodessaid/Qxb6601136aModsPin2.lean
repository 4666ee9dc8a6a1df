/- zzPodsIn once more: the cohorts' row told whole. -/
import Derived.Test.Qxb6601136aModsPodsBoth
namespace Go.Proofs.Qxb6601136aMods.Pin2
open Go.ChangeShapes Go.WideShapes Go.ChangeAt Go.RowKit
open Go.Proofs.Qxb6601136aMods.Mem Go.Proofs.Qxb6601136aMods.Pool Go.Proofs.Qxb6601136aMods.Grow Go.Proofs.Qxb6601136aMods.Pods Go.Proofs.Qxb6601136aMods.Conv Go.Proofs.Qxb6601136aMods.PodsBoth
set_option linter.unusedSimpArgs false
set_option linter.unusedVariables false

/-- The cohorts: a row of n, the first m told, in block N. -/
def Coh (w : World) (lo Bp N n m : Nat) (a : Option Addr) (P Q : Nat → Int) : Prop :=
  (a = none → n = 0) ∧ m ≤ n ∧ (0 < n → a = some ⟨N, 0, none⟩ ∧ lo ≤ N ∧ N ≠ Bp ∧ PRow .i32 w N 86 n m P Q)

/-- An optional pool apart from blocks Bp and N. -/
def PoolX (w : World) (lo Bp N : Nat) (np : Option Addr) (hv : Bool) (pn dl rd jn : Int) (nj : Nat) (PJ QJ : Nat → Int) : Prop :=
  (hv = false → np = none) ∧ (hv = true → ∃ Bn aj, np = some ⟨Bn, 0, none⟩ ∧ lo ≤ Bn ∧ Bn ≠ Bp ∧ Bn ≠ N ∧ PoolBlk w Bn 83 pn dl rd aj nj nj jn ∧ (aj = none → nj = 0) ∧ PrsX .i64 w (fun b => b ≠ Bp ∧ b ≠ N) aj nj PJ QJ)

theorem podsIn_pool {w wr w2 : World} {o : Obj} {np2 : Option Addr} {hv : Bool} {pn dl rd jn : Int} {nj : Nat} {PJ QJ : Nat → Int} {N : Nat} (hbel : Below w.heap.size w wr) (hN : Nodes w2 wr.heap.size 83 np2 hv pn dl rd jn nj PJ QJ) (hNN : N < wr.heap.size ∨ N = w2.heap.size) :
    PoolX (w2.alloc o) w.heap.size w2.heap.size N np2 hv pn dl rd jn nj PJ QJ := by
  have s1 := hbel.size
  have hk : ∀ b, b < w2.heap.size → (w2.alloc o).heap[b]? = w2.heap[b]? := fun b hb => Below.heap_alloc _ _ _ hb
  refine ⟨hN.1, fun ht => ?_⟩
  obtain ⟨B, aj, hp, hl, hB, hnj, hr⟩ := hN.2 ht
  have hlt := hB.lt
  have hX : PrsX .i64 w2 (fun b => b ≠ w2.heap.size ∧ b ≠ N) aj nj PJ QJ := hr.okTo (fun b hb hlt => ⟨by omega, by omega⟩)
  exact ⟨B, aj, hp, by omega, by omega, by omega, hB.block (hk B hlt), hnj, hX.kept (fun b _ hlt => hk b hlt) (by simp)⟩

theorem podsIn_bare {w wr w2 : World} {np2 : Option Addr} {P Q : Nat → Int} {hv : Bool} {r s p pn dl rd jn : Int} {nj : Nat} {PJ QJ : Nat → Int} (hbel : Below w.heap.size w wr) (hN : Nodes w2 wr.heap.size 83 np2 hv pn dl rd jn nj PJ QJ) (hb2 : Below wr.heap.size wr w2) :
    w.heap.size ≤ w2.heap.size ∧ PodsBlk (w2.alloc (.cells #[.int .i32 r, .int .i32 s, .int .i32 p, .slice none 0 0, .pointer np2] 88)) w2.heap.size 88 r s p none 0 0 np2 ∧
    Coh (w2.alloc (.cells #[.int .i32 r, .int .i32 s, .int .i32 p, .slice none 0 0, .pointer np2] 88)) w.heap.size w2.heap.size w2.heap.size 0 0 none P Q ∧
    PoolX (w2.alloc (.cells #[.int .i32 r, .int .i32 s, .int .i32 p, .slice none 0 0, .pointer np2] 88)) w.heap.size w2.heap.size w2.heap.size np2 hv pn dl rd jn nj PJ QJ ∧
    Below w.heap.size w (w2.alloc (.cells #[.int .i32 r, .int .i32 s, .int .i32 p, .slice none 0 0, .pointer np2] 88)) := by
  have s1 := hbel.size
  have s2 := hb2.size
  exact ⟨by omega, PodsBlk.new _ _ _ _ _ _ _ _ _, ⟨fun _ => rfl, Nat.le_refl _, fun h => absurd h (Nat.lt_irrefl _)⟩, podsIn_pool hbel hN (Or.inr rfl), (hbel.trans (hb2.mono s1)).alloc (by omega) _⟩

theorem podsIn_row {w wr w2 : World} {np2 : Option Addr} {n : Nat} {P Q : Nat → Int} {hv : Bool} {r s p pn dl rd jn : Int} {nj : Nat} {PJ QJ : Nat → Int} (hbel : Below w.heap.size w wr) (hR : PRow .i32 wr (w.heap.size + 1) 86 n n P Q) (hN : Nodes w2 wr.heap.size 83 np2 hv pn dl rd jn nj PJ QJ) (hb2 : Below wr.heap.size wr w2) :
    w.heap.size ≤ w2.heap.size ∧ PodsBlk (w2.alloc (.cells #[.int .i32 r, .int .i32 s, .int .i32 p, .slice (some ⟨w.heap.size + 1, 0, none⟩) n n, .pointer np2] 88)) w2.heap.size 88 r s p (some ⟨w.heap.size + 1, 0, none⟩) n n np2 ∧
    Coh (w2.alloc (.cells #[.int .i32 r, .int .i32 s, .int .i32 p, .slice (some ⟨w.heap.size + 1, 0, none⟩) n n, .pointer np2] 88)) w.heap.size w2.heap.size (w.heap.size + 1) n n (some ⟨w.heap.size + 1, 0, none⟩) P Q ∧
    PoolX (w2.alloc (.cells #[.int .i32 r, .int .i32 s, .int .i32 p, .slice (some ⟨w.heap.size + 1, 0, none⟩) n n, .pointer np2] 88)) w.heap.size w2.heap.size (w.heap.size + 1) np2 hv pn dl rd jn nj PJ QJ ∧
    Below w.heap.size w (w2.alloc (.cells #[.int .i32 r, .int .i32 s, .int .i32 p, .slice (some ⟨w.heap.size + 1, 0, none⟩) n n, .pointer np2] 88)) := by
  have s1 := hbel.size
  have s2 := hb2.size
  have hlt := hR.lt
  refine ⟨by omega, PodsBlk.new _ _ _ _ _ _ _ _ _, ⟨fun h => (by cases h), Nat.le_refl _, fun _ => ⟨rfl, by omega, by omega, ?_⟩⟩, podsIn_pool hbel hN (Or.inl hlt), (hbel.trans (hb2.mono s1)).alloc (by omega) _⟩
  exact hR.block ((Below.heap_alloc _ _ _ (by omega)).trans (hb2.block _ hlt))

set_option maxHeartbeats 2000000 in
set_option maxRecDepth 100000 in
theorem pin_bare (r s p : Int) (P Q : Nat → Int) (np : Option Addr) (hv : Bool) (pn dl rd jn : Int) (nj : Nat) (PJ QJ : Nat → Int) (w : World) (hlenj : nj ≤ 1048576) (hN : NodesR w np hv pn dl rd jn nj PJ QJ) :
    Calls Trym.prog 37 #[.agg #[.int .i32 r, .int .i32 s, .int .i32 p, .slice none 0 0, .pointer np]] w fun e w' => ∃ Bp np' a' N, e = .returned (.pointer (some ⟨Bp, 0, none⟩)) ∧ w.heap.size ≤ Bp ∧ PodsBlk w' Bp 88 r s p a' 0 0 np' ∧ Coh w' w.heap.size Bp N 0 0 a' P Q ∧ PoolX w' w.heap.size Bp N np' hv pn dl rd jn nj PJ QJ ∧ Below w.heap.size w w' := by
  obtain ⟨w1, hw1⟩ : ∃ w1, w1 = w.alloc (.cells #[.int .i32 r, .int .i32 s, .int .i32 p, .slice none 0 0, .pointer np] 46) := ⟨_, rfl⟩
  have HZ : Hid (PodsBlk w1.drew w.heap.size 46 r s p none 0 0 np) := by rw [hw1]; exact PodsBlk.new w 46 r s p none 0 0 np
  have HN1 : Hid (NodesR w1.drew np hv pn dl rd jn nj PJ QJ) := by rw [hw1]; exact (hN.below ((Below.refl _ _).alloc (Nat.le_refl _) _)).drew
  have hbel1 : Below w.heap.size w w1 := by rw [hw1]; exact (Below.refl _ _).alloc (Nat.le_refl _) _
  have HW : Hid (w1 = w.alloc (.cells #[.int .i32 r, .int .i32 s, .int .i32 p, .slice none 0 0, .pointer np] 46)) := hw1
  obtain ⟨z0, z1, z2, z3, z4⟩ : w1.cell? ⟨w.heap.size, 0, none⟩ = some (.int .i32 r) ∧ w1.cell? ⟨w.heap.size, 1, none⟩ = some (.int .i32 s) ∧ w1.cell? ⟨w.heap.size, 2, none⟩ = some (.int .i32 p) ∧ w1.cell? ⟨w.heap.size, 3, none⟩ = some (.slice none 0 0) ∧ w1.cell? ⟨w.heap.size, 4, none⟩ = some (.pointer np) := HZ.out.cells
  clear hw1 hN
  have he := fun w => run_neq_slice_nil_any (P := Trym.prog) w 44 77 none 0 0 0 0 Trym.underlying44
  go_enter Trym.func37, Trym.ntmps37
  go_wp2
  rw [← HW.out]
  go_region_held3 (fun w' => w'.cell? ⟨w.heap.size, 0, none⟩ = some (.int .i32 r) ∧ w'.cell? ⟨w.heap.size, 1, none⟩ = some (.int .i32 s) ∧ w'.cell? ⟨w.heap.size, 2, none⟩ = some (.int .i32 p) ∧ w'.cell? ⟨w.heap.size, 4, none⟩ = some (.pointer np)) (go_keep)
    ((go_at_call 34; refine (Pool2.pin_any np hv nj pn dl rd jn PJ QJ _ hlenj ?_).mono ?_; (exact HN1.out); rintro e w2 ⟨np2, rfl, hN2, hb2⟩; obtain ⟨e0, e1, e2, e3, e4⟩ := (HZ.out.below hb2).cells))
  have hN2' : Nodes w2 w1.heap.size 83 np2 hv pn dl rd jn nj PJ QJ := hN2
  have hb2' : Below w1.heap.size w1 w2 := (Below.refl _ w1).drew.trans hb2
  have HF : Hid _ := podsIn_bare (P := P) (Q := Q) (r := r) (s := s) (p := p) hbel1 hN2' hb2'
  clear hN2 hb2 hN2' hb2' e0 e1 e2 e3 e4
  go_wp2
  go_ret
  exact ⟨w2.heap.size, np2, _, _, rfl, HF.out⟩

set_option maxHeartbeats 2000000 in
set_option maxRecDepth 100000 in
theorem pin_some (r s p : Int) (x : Addr) (n c : Nat) (P Q : Nat → Int) (np : Option Addr) (hv : Bool) (pn dl rd jn : Int) (nj : Nat) (PJ QJ : Nat → Int) (w : World) (hlen : n ≤ 1048576) (hlenj : nj ≤ 1048576) (hP : Prs .i32 w 0 (some x) n P Q) (hN : NodesR w np hv pn dl rd jn nj PJ QJ) :
    Calls Trym.prog 37 #[.agg #[.int .i32 r, .int .i32 s, .int .i32 p, .slice (some x) n c, .pointer np]] w fun e w' => ∃ Bp np' a' N, e = .returned (.pointer (some ⟨Bp, 0, none⟩)) ∧ w.heap.size ≤ Bp ∧ PodsBlk w' Bp 88 r s p a' n n np' ∧ Coh w' w.heap.size Bp N n n a' P Q ∧ PoolX w' w.heap.size Bp N np' hv pn dl rd jn nj PJ QJ ∧ Below w.heap.size w w' := by
  have HP : Hid (Prs .i32 w 0 (some x) n P Q) := hP
  have HN : Hid (NodesR w np hv pn dl rd jn nj PJ QJ) := hN
  clear hP hN
  have he := fun w => run_neq_slice_nil_any (P := Trym.prog) w 44 77 (some x) n c 0 0 Trym.underlying44
  have hmk := run_make_k (P := Trym.prog) 84 86 _ 2 16 Trym.underlying84 info86 .i64 .i64 n (by omega) (by omega)
  go_enter Trym.func37, Trym.ntmps37
  go_wp2
  clear he hmk
  have h0 : Hid (Below w.heap.size w ((w.alloc (.cells #[.int .i32 r, .int .i32 s, .int .i32 p, .slice (some x) n c, .pointer np] 46)).alloc (.cells (madeCells (Value.agg #[.int .i64 0, .int .i32 0]).cells (n * 2)) 86)) ∧
      PodsBlk ((w.alloc (.cells #[.int .i32 r, .int .i32 s, .int .i32 p, .slice (some x) n c, .pointer np] 46)).alloc (.cells (madeCells (Value.agg #[.int .i64 0, .int .i32 0]).cells (n * 2)) 86)) w.heap.size 46 r s p (some x) n c np ∧
      PRow .i32 ((w.alloc (.cells #[.int .i32 r, .int .i32 s, .int .i32 p, .slice (some x) n c, .pointer np] 46)).alloc (.cells (madeCells (Value.agg #[.int .i64 0, .int .i32 0]).cells (n * 2)) 86)) (w.heap.size + 1) 86 n 0 P Q) := by
    refine ⟨by go_grown, (PodsBlk.new w 46 r s p (some x) n c np).alloc _, ?_⟩
    have := PRow.made .i32 (w.alloc (.cells #[.int .i32 r, .int .i32 s, .int .i32 p, .slice (some x) n c, .pointer np] 46)) (Value.agg #[.int .i64 0, .int .i32 0]).cells 86 n P Q
    rw [World.size_alloc] at this
    exact this
  go_loopg [4, 15] n (fun g _ i wr => ∃ k : Nat, k ≤ n ∧ g = n - k ∧ i = .int .i64 k ∧ Below w.heap.size w wr ∧ Hid (PodsBlk wr w.heap.size 46 r s p (some x) n c np) ∧ PRow .i32 wr (w.heap.size + 1) 86 n k P Q)
  case atStart => exact ⟨0, Nat.zero_le _, rfl, rfl, h0.out.1, h0.out.2.1, h0.out.2.2⟩
  case round =>
    obtain ⟨k, hk, rfl, rfl, hbel, hZ, hrow⟩ := hrel
    clear h0
    obtain ⟨z0, z1, z2, z3, z4⟩ := hZ.out.cells
    by_cases hlt : k < n
    · obtain ⟨b, off, hx, _, hbw, hc⟩ := HP.out (by omega)
      obtain rfl := Option.some.inj hx
      have g1 : wr.cell? ⟨b, off + k * 2, none⟩ = some (.int .i64 (P k)) := (hbel.cell (p := ⟨b, off + k * 2, none⟩) hbw).trans (hc k hlt).1
      have g2 : wr.cell? ⟨b, off + (k * 2 + 1), none⟩ = some (.int .i32 (Q k)) := (hbel.cell (p := ⟨b, off + (k * 2 + 1), none⟩) hbw).trans (hc k hlt).2
      have g2' : wr.cell? ⟨b, off + k * 2 + 1, none⟩ = some (.int .i32 (Q k)) := g2
      obtain ⟨v, v', g3, g4⟩ := hrow.ex hlt
      have f3 : wr.frozen? ⟨w.heap.size + 1, k * 2, none⟩ = false := hrow.frozen _
      have f4 : wr.frozen? ⟨w.heap.size + 1, k * 2 + 1, none⟩ = false := hrow.frozen _
      have i1 : (k : Int) < (n : Int) := by omega
      clear hc hx z0 z1 z2 z4
      go_wp2
      go_region
      all_goals go_wp2
      all_goals go_roundg (n - (k + 1))
      case measure => omega
      case rel => exact ⟨k + 1, by omega, rfl, by go_num, ((hbel.setCell (Nat.le_succ _) _).setCell (Nat.le_succ _) _).drew, ((hZ.out.block (Below.heap_setCell _ _ _ _ (Nat.ne_of_lt (Nat.lt_succ_self _)))).block (Below.heap_setCell _ _ _ _ (Nat.ne_of_lt (Nat.lt_succ_self _)))), (hrow.next hlt).drew⟩
    · have hkn : k = n := by omega
      subst hkn
      have HZ : Hid (PodsBlk wr.drew w.heap.size 46 r s p (some x) k c np) := hZ.out
      have HN1 : Hid (NodesR wr.drew np hv pn dl rd jn nj PJ QJ) := (HN.out.below hbel).drew
      have hbel1 := hbel
      have HP1 : Hid (PRow .i32 wr (w.heap.size + 1) 86 k k P Q) := hrow
      clear hrow hZ HN HP hbel
      go_wp2
      go_region_held3 (fun w' => w'.cell? ⟨w.heap.size, 0, none⟩ = some (.int .i32 r) ∧ w'.cell? ⟨w.heap.size, 1, none⟩ = some (.int .i32 s) ∧ w'.cell? ⟨w.heap.size, 2, none⟩ = some (.int .i32 p) ∧ w'.cell? ⟨w.heap.size, 4, none⟩ = some (.pointer np)) (go_keep)
        ((go_at_call 34; refine (Pool2.pin_any np hv nj pn dl rd jn PJ QJ _ hlenj ?_).mono ?_; (exact HN1.out); rintro e w2 ⟨np2, rfl, hN2, hb2⟩; obtain ⟨e0, e1, e2, e3, e4⟩ := (HZ.out.below hb2).cells))
      have hN2' : Nodes w2 wr.heap.size 83 np2 hv pn dl rd jn nj PJ QJ := hN2
      have hb2' : Below wr.heap.size wr w2 := (Below.refl _ wr).drew.trans hb2
      have HF : Hid _ := podsIn_row (r := r) (s := s) (p := p) hbel1 HP1.out hN2' hb2'
      clear hN2 hb2 hN2' hb2' e0 e1 e2 e3 e4
      go_wp2
      go_ret
      exact ⟨w2.heap.size, np2, _, _, rfl, HF.out⟩

/-- zzPodsIn: pods of its own. -/
theorem pin_any (r s p : Int) (a : Option Addr) (n c : Nat) (P Q : Nat → Int) (np : Option Addr) (hv : Bool) (pn dl rd jn : Int) (nj : Nat) (PJ QJ : Nat → Int) (w : World) (hlen : n ≤ 1048576) (hlenj : nj ≤ 1048576) (hnil : a = none → n = 0 ∧ c = 0) (hP : Prs .i32 w 0 a n P Q) (hN : NodesR w np hv pn dl rd jn nj PJ QJ) :
    Calls Trym.prog 37 #[.agg #[.int .i32 r, .int .i32 s, .int .i32 p, .slice a n c, .pointer np]] w fun e w' => ∃ Bp np' a' N, e = .returned (.pointer (some ⟨Bp, 0, none⟩)) ∧ w.heap.size ≤ Bp ∧ PodsBlk w' Bp 88 r s p a' n n np' ∧ Coh w' w.heap.size Bp N n n a' P Q ∧ PoolX w' w.heap.size Bp N np' hv pn dl rd jn nj PJ QJ ∧ Below w.heap.size w w' := by
  cases a with
  | none =>
    obtain ⟨rfl, rfl⟩ := hnil rfl
    exact pin_bare r s p P Q np hv pn dl rd jn nj PJ QJ w hlenj hN
  | some x => exact pin_some r s p x n c P Q np hv pn dl rd jn nj PJ QJ w hlen hlenj hP hN


end Go.Proofs.Qxb6601136aMods.Pin2
