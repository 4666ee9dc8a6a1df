/- The contracts of zzPoolIn, zzPoolOut once more, over optional pools, telling the list's block from the pool's. -/
import Derived.Test.Qxb6601136aModsPods
namespace Go.Proofs.Qxb6601136aMods.Pool2
open Go.ChangeShapes Go.WideShapes Go.ChangeAt Go.RowKit
open Go.Proofs.Qxb6601136aMods.Mem Go.Proofs.Qxb6601136aMods.Pool Go.Proofs.Qxb6601136aMods.Pods
set_option linter.unusedSimpArgs false
set_option linter.unusedVariables false

theorem pin_nil (w : World) : Calls Trym.prog 34 #[.pointer none] w fun x w' => x = .returned (.pointer none) ∧ w = w' := by
  go_enter Trym.func34, Trym.ntmps34
  go_wp2
  go_ret
  exact ⟨rfl, rfl⟩

set_option maxHeartbeats 2000000 in
set_option maxRecDepth 100000 in
/-- zzPoolIn of a pool whose list is nil. -/
theorem pin_bare (B : Nat) (pn dl rd jn : Int) (w : World) (hp : PoolAt w B 0 pn dl rd none 0 0 jn) :
    Calls Trym.prog 34 #[.pointer (some ⟨B, 0, none⟩)] w fun e w' => ∃ B', e = .returned (.pointer (some ⟨B', 0, none⟩)) ∧ w.heap.size ≤ B' ∧ PoolBlk w' B' 83 pn dl rd none 0 0 jn ∧ Below w.heap.size w w' := by
  obtain ⟨h0, h1, h2, h3, h4, h5⟩ := hp
  simp only [Nat.zero_add] at h2 h3 h4 h5
  have he := fun w => run_neq_slice_nil_any (P := Trym.prog) w 25 68 none 0 0 0 0 Trym.underlying25
  go_enter Trym.func34, Trym.ntmps34
  go_wp2
  go_region
  all_goals go_wp2
  all_goals go_ret
  all_goals exact ⟨w.heap.size, rfl, Nat.le_refl _, PoolBlk.new _ _ _ _ _ _ _ _ _, by go_grown⟩

set_option maxHeartbeats 2000000 in
set_option maxRecDepth 100000 in
theorem pin_some (B : Nat) (x : Addr) (n c : Nat) (pn dl rd jn : Int) (P Q : Nat → Int) (w : World) (hlen : n ≤ 1048576) (hp : PoolAt w B 0 pn dl rd (some x) n c jn) (hP : Prs .i64 w 0 (some x) n P Q) :
    Calls Trym.prog 34 #[.pointer (some ⟨B, 0, none⟩)] w fun e w' => ∃ B', e = .returned (.pointer (some ⟨B', 0, none⟩)) ∧ w.heap.size ≤ B' ∧ PoolBlk w' B' 83 pn dl rd (some ⟨w.heap.size, 0, none⟩) n n jn ∧
      Prs .i64 w' w.heap.size (some ⟨w.heap.size, 0, none⟩) n P Q ∧ Below w.heap.size w w' ∧ w.heap.size < B' := by
  have Hp : Hid (PoolAt w B 0 pn dl rd (some x) n c jn) := hp
  obtain ⟨h0, h1, h2, h3, h4, h5⟩ := hp
  simp only [Nat.zero_add] at h2 h3 h4 h5
  have he := fun w => run_neq_slice_nil_any (P := Trym.prog) w 25 68 (some x) n c 0 0 Trym.underlying25
  have hmk := run_make_k (P := Trym.prog) 79 81 _ 2 16 Trym.underlying79 info81 .i64 .i64 n (by omega) (by omega)
  have HP : Hid (Prs .i64 w 0 (some x) n P Q) := hP
  have k4 : ∀ o, (w.alloc o).cell? ⟨B, 3, none⟩ = some (.slice (some x) n c) := fun o => by
    have := (((Below.refl _ w).alloc (Nat.le_refl _) o).cell (p := ⟨B, 3, none⟩) h0).trans h4
    exact this
  clear hP
  go_enter Trym.func34, Trym.ntmps34
  go_wp2
  clear he hmk h1 h2 h3 h4 h5 k4
  go_loopg [4, 23] n (fun g _ i wr => ∃ k : Nat, k ≤ n ∧ g = n - k ∧ i = .int .i64 k ∧ Below w.heap.size w wr ∧ PRow .i64 wr w.heap.size 81 n k P Q)
  case atStart => exact ⟨0, Nat.zero_le _, rfl, rfl, (Below.refl _ _).alloc (Nat.le_refl _) _, PRow.made _ _ _ _ _ _ _⟩
  case round =>
    obtain ⟨k, hk, rfl, rfl, hbel, hrow⟩ := hrel
    obtain ⟨h0', h1, h2, h3, h4, h5⟩ := Hp.out.below hbel
    simp only [Nat.zero_add] at h2 h3 h4 h5
    by_cases hlt : k < n
    · obtain ⟨b, off, hx, _, hbw, hc⟩ := HP.out (by omega)
      obtain rfl := Option.some.inj hx
      have g1 : wr.cell? ⟨b, off + k * 2, none⟩ = some (.int .i64 (P k)) := (hbel.cell (p := ⟨b, off + k * 2, none⟩) hbw).trans (hc k hlt).1
      have g2 : wr.cell? ⟨b, off + (k * 2 + 1), none⟩ = some (.int .i64 (Q k)) := (hbel.cell (p := ⟨b, off + (k * 2 + 1), none⟩) hbw).trans (hc k hlt).2
      have g2' : wr.cell? ⟨b, off + k * 2 + 1, none⟩ = some (.int .i64 (Q k)) := g2
      obtain ⟨v, v', g3, g4⟩ := hrow.ex hlt
      have f3 : wr.frozen? ⟨w.heap.size, k * 2, none⟩ = false := hrow.frozen _
      have f4 : wr.frozen? ⟨w.heap.size, k * 2 + 1, none⟩ = false := hrow.frozen _
      have i1 : (k : Int) < (n : Int) := by omega
      clear hc hx h1 h2 h3 h5
      go_wp2
      go_region
      all_goals go_wp2
      all_goals go_roundg (n - (k + 1))
      case measure => omega
      case rel => exact ⟨k + 1, by omega, rfl, by go_num, ((hbel.setCell (Nat.le_refl _) _).setCell (Nat.le_refl _) _).drew, (hrow.next hlt).drew⟩
    · have hkn : k = n := by omega
      subst hkn
      go_wp2
      go_region
      all_goals go_wp2
      all_goals go_ret
      all_goals exact ⟨wr.heap.size, rfl, hbel.size, PoolBlk.new _ _ _ _ _ _ _ _ _, (((hrow.prs (Nat.le_refl _)).drew).alloc _), ((hbel.drew).alloc hbel.size _), hrow.lt⟩

/-- zzPoolIn: an optional pool of its own, the same fields, the same list. -/
theorem pin_any (p : Option Addr) (hv : Bool) (n : Nat) (pn dl rd jn : Int) (P Q : Nat → Int) (w : World) (hlen : n ≤ 1048576) (h : NodesR w p hv pn dl rd jn n P Q) :
    Calls Trym.prog 34 #[.pointer p] w fun e w' => ∃ p', e = .returned (.pointer p') ∧ Nodes w' w.heap.size 83 p' hv pn dl rd jn n P Q ∧ Below w.heap.size w w' := by
  cases hv with
  | false =>
    obtain rfl := h.1 rfl
    refine (pin_nil w).mono ?_
    rintro e w' ⟨rfl, rfl⟩
    exact ⟨none, rfl, ⟨fun _ => rfl, fun h => by cases h⟩, Below.refl _ _⟩
  | true =>
    obtain ⟨B, a, c, rfl, hp, hnil, hP⟩ := h.2 rfl
    cases a with
    | none =>
      obtain ⟨rfl, rfl⟩ := hnil rfl
      refine (pin_bare B pn dl rd jn w hp).mono ?_
      rintro e w' ⟨B', rfl, hB, hb, hbel⟩
      exact ⟨_, rfl, ⟨fun h => (by cases h), fun _ => ⟨B', none, rfl, hB, hb, fun _ => rfl, fun h => absurd h (Nat.lt_irrefl _)⟩⟩, hbel⟩
    | some x =>
      refine (pin_some B x n c pn dl rd jn P Q w hlen hp hP).mono ?_
      rintro e w' ⟨B', rfl, hB, hb, hP', hbel, hne⟩
      refine ⟨_, rfl, ⟨fun h => (by cases h), fun _ => ⟨B', _, rfl, hB, hb, fun h => (by cases h), fun hn => ?_⟩⟩, hbel⟩
      obtain ⟨b, off, ha, hlo, hbw, hc⟩ := hP' hn
      refine ⟨b, off, ha, ⟨hlo, ?_⟩, hbw, hc⟩
      simp at ha
      omega

theorem pout_nil (w : World) : Calls Trym.prog 36 #[.pointer none] w fun x w' => x = .returned (.pointer none) ∧ w = w' := by
  go_enter Trym.func36, Trym.ntmps36
  go_wp2
  go_ret
  exact ⟨rfl, rfl⟩

set_option maxHeartbeats 2000000 in
set_option maxRecDepth 100000 in
/-- zzPoolOut of a pool whose list is nil. -/
theorem pout_bare (B : Nat) (pn dl rd jn : Int) (w : World) (hp : PoolAt w B 0 pn dl rd none 0 0 jn) :
    Calls Trym.prog 36 #[.pointer (some ⟨B, 0, none⟩)] w fun e w' => ∃ B', e = .returned (.pointer (some ⟨B', 0, none⟩)) ∧ w.heap.size ≤ B' ∧ PoolBlk w' B' 27 pn dl rd none 0 0 jn ∧ Below w.heap.size w w' := by
  obtain ⟨h0, h1, h2, h3, h4, h5⟩ := hp
  simp only [Nat.zero_add] at h2 h3 h4 h5
  have he := fun w => run_neq_slice_nil_any (P := Trym.prog) w 79 81 none 0 0 0 0 Trym.underlying79
  go_enter Trym.func36, Trym.ntmps36
  go_wp2
  go_region
  all_goals go_wp2
  all_goals go_ret
  all_goals exact ⟨w.heap.size, rfl, Nat.le_refl _, PoolBlk.new _ _ _ _ _ _ _ _ _, by go_grown⟩

set_option maxHeartbeats 2000000 in
set_option maxRecDepth 100000 in
theorem pout_some (B : Nat) (x : Addr) (n c : Nat) (pn dl rd jn : Int) (P Q : Nat → Int) (w : World) (hlen : n ≤ 1048576) (hp : PoolAt w B 0 pn dl rd (some x) n c jn) (hP : Prs .i64 w 0 (some x) n P Q) :
    Calls Trym.prog 36 #[.pointer (some ⟨B, 0, none⟩)] w fun e w' => ∃ B', e = .returned (.pointer (some ⟨B', 0, none⟩)) ∧ w.heap.size ≤ B' ∧ PoolBlk w' B' 27 pn dl rd (some ⟨w.heap.size, 0, none⟩) n n jn ∧
      Prs .i64 w' w.heap.size (some ⟨w.heap.size, 0, none⟩) n P Q ∧ Below w.heap.size w w' ∧ w.heap.size < B' := by
  have Hp : Hid (PoolAt w B 0 pn dl rd (some x) n c jn) := hp
  obtain ⟨h0, h1, h2, h3, h4, h5⟩ := hp
  simp only [Nat.zero_add] at h2 h3 h4 h5
  have he := fun w => run_neq_slice_nil_any (P := Trym.prog) w 79 81 (some x) n c 0 0 Trym.underlying79
  have hmk := run_make_k (P := Trym.prog) 25 68 _ 2 16 Trym.underlying25 info68 .i64 .i64 n (by omega) (by omega)
  have HP : Hid (Prs .i64 w 0 (some x) n P Q) := hP
  have k4 : ∀ o, (w.alloc o).cell? ⟨B, 3, none⟩ = some (.slice (some x) n c) := fun o => by
    have := (((Below.refl _ w).alloc (Nat.le_refl _) o).cell (p := ⟨B, 3, none⟩) h0).trans h4
    exact this
  clear hP
  go_enter Trym.func36, Trym.ntmps36
  go_wp2
  clear he hmk h1 h2 h3 h4 h5 k4
  go_loopg [4, 23] n (fun g _ i wr => ∃ k : Nat, k ≤ n ∧ g = n - k ∧ i = .int .i64 k ∧ Below w.heap.size w wr ∧ PRow .i64 wr w.heap.size 68 n k P Q)
  case atStart => exact ⟨0, Nat.zero_le _, rfl, rfl, (Below.refl _ _).alloc (Nat.le_refl _) _, PRow.made _ _ _ _ _ _ _⟩
  case round =>
    obtain ⟨k, hk, rfl, rfl, hbel, hrow⟩ := hrel
    obtain ⟨h0', h1, h2, h3, h4, h5⟩ := Hp.out.below hbel
    simp only [Nat.zero_add] at h2 h3 h4 h5
    by_cases hlt : k < n
    · obtain ⟨b, off, hx, _, hbw, hc⟩ := HP.out (by omega)
      obtain rfl := Option.some.inj hx
      have g1 : wr.cell? ⟨b, off + k * 2, none⟩ = some (.int .i64 (P k)) := (hbel.cell (p := ⟨b, off + k * 2, none⟩) hbw).trans (hc k hlt).1
      have g2 : wr.cell? ⟨b, off + (k * 2 + 1), none⟩ = some (.int .i64 (Q k)) := (hbel.cell (p := ⟨b, off + (k * 2 + 1), none⟩) hbw).trans (hc k hlt).2
      have g2' : wr.cell? ⟨b, off + k * 2 + 1, none⟩ = some (.int .i64 (Q k)) := g2
      obtain ⟨v, v', g3, g4⟩ := hrow.ex hlt
      have f3 : wr.frozen? ⟨w.heap.size, k * 2, none⟩ = false := hrow.frozen _
      have f4 : wr.frozen? ⟨w.heap.size, k * 2 + 1, none⟩ = false := hrow.frozen _
      have i1 : (k : Int) < (n : Int) := by omega
      clear hc hx h1 h2 h3 h5
      go_wp2
      go_region
      all_goals go_wp2
      all_goals go_roundg (n - (k + 1))
      case measure => omega
      case rel => exact ⟨k + 1, by omega, rfl, by go_num, ((hbel.setCell (Nat.le_refl _) _).setCell (Nat.le_refl _) _).drew, (hrow.next hlt).drew⟩
    · have hkn : k = n := by omega
      subst hkn
      go_wp2
      go_region
      all_goals go_wp2
      all_goals go_ret
      all_goals exact ⟨wr.heap.size, rfl, hbel.size, PoolBlk.new _ _ _ _ _ _ _ _ _, (((hrow.prs (Nat.le_refl _)).drew).alloc _), ((hbel.drew).alloc hbel.size _), hrow.lt⟩

/-- zzPoolOut: an optional pool of its own, the same fields, the same list. -/
theorem pout_any (p : Option Addr) (hv : Bool) (n : Nat) (pn dl rd jn : Int) (P Q : Nat → Int) (w : World) (hlen : n ≤ 1048576) (h : NodesR w p hv pn dl rd jn n P Q) :
    Calls Trym.prog 36 #[.pointer p] w fun e w' => ∃ p', e = .returned (.pointer p') ∧ Nodes w' w.heap.size 27 p' hv pn dl rd jn n P Q ∧ Below w.heap.size w w' := by
  cases hv with
  | false =>
    obtain rfl := h.1 rfl
    refine (pout_nil w).mono ?_
    rintro e w' ⟨rfl, rfl⟩
    exact ⟨none, rfl, ⟨fun _ => rfl, fun h => by cases h⟩, Below.refl _ _⟩
  | true =>
    obtain ⟨B, a, c, rfl, hp, hnil, hP⟩ := h.2 rfl
    cases a with
    | none =>
      obtain ⟨rfl, rfl⟩ := hnil rfl
      refine (pout_bare B pn dl rd jn w hp).mono ?_
      rintro e w' ⟨B', rfl, hB, hb, hbel⟩
      exact ⟨_, rfl, ⟨fun h => (by cases h), fun _ => ⟨B', none, rfl, hB, hb, fun _ => rfl, fun h => absurd h (Nat.lt_irrefl _)⟩⟩, hbel⟩
    | some x =>
      refine (pout_some B x n c pn dl rd jn P Q w hlen hp hP).mono ?_
      rintro e w' ⟨B', rfl, hB, hb, hP', hbel, hne⟩
      refine ⟨_, rfl, ⟨fun h => (by cases h), fun _ => ⟨B', _, rfl, hB, hb, fun h => (by cases h), fun hn => ?_⟩⟩, hbel⟩
      obtain ⟨b, off, ha, hlo, hbw, hc⟩ := hP' hn
      refine ⟨b, off, ha, ⟨hlo, ?_⟩, hbw, hc⟩
      simp at ha
      omega

end Go.Proofs.Qxb6601136aMods.Pool2
