/- Node pools behind pointers; the contracts of zzPoolIn, zzPoolOut. -/
import Derived.Test.Qxb6601136aModsMem
namespace Go.Proofs.Qxb6601136aMods.Pool
open Go.ChangeShapes Go.WideShapes Go.ChangeAt Go.RowKit
open Go.Proofs.Qxb6601136aMods.Mem
set_option linter.unusedSimpArgs false
set_option linter.unusedVariables false

/-- The five cells of a pool, wherever they lie. -/
def PoolAt (w : World) (B off : Nat) (pn dl rd : Int) (a : Option Addr) (n c : Nat) (jn : Int) : Prop :=
  B < w.heap.size ∧ w.cell? ⟨B, off, none⟩ = some (.int .i64 pn) ∧ w.cell? ⟨B, off + 1, none⟩ = some (.int .i64 dl) ∧ w.cell? ⟨B, off + 2, none⟩ = some (.int .i64 rd) ∧
    w.cell? ⟨B, off + 3, none⟩ = some (.slice a n c) ∧ w.cell? ⟨B, off + 4, none⟩ = some (.int .i64 jn)

/-- A pool in a block of its own. -/
def PoolBlk (w : World) (B : Nat) (t : TypeId) (pn dl rd : Int) (a : Option Addr) (n c : Nat) (jn : Int) : Prop :=
  w.heap[B]? = some (.cells #[.int .i64 pn, .int .i64 dl, .int .i64 rd, .slice a n c, .int .i64 jn] t (0, 0))

section
variable {w w' : World} {B off : Nat} {t : TypeId} {pn dl rd jn : Int} {a : Option Addr} {n c : Nat}
theorem PoolAt.below (h : PoolAt w B off pn dl rd a n c jn) (hb : Below w.heap.size w w') : PoolAt w' B off pn dl rd a n c jn := by
  obtain ⟨h0, h1, h2, h3, h4, h5⟩ := h
  exact ⟨Nat.lt_of_lt_of_le h0 hb.size, (hb.cell (p := ⟨B, off, none⟩) h0).trans h1, (hb.cell (p := ⟨B, off + 1, none⟩) h0).trans h2, (hb.cell (p := ⟨B, off + 2, none⟩) h0).trans h3, (hb.cell (p := ⟨B, off + 3, none⟩) h0).trans h4, (hb.cell (p := ⟨B, off + 4, none⟩) h0).trans h5⟩
theorem PoolBlk.lt (h : PoolBlk w B t pn dl rd a n c jn) : B < w.heap.size := by
  obtain ⟨hlt, _⟩ := Array.getElem?_eq_some_iff.1 h
  exact hlt
theorem PoolBlk.at (h : PoolBlk w B t pn dl rd a n c jn) : PoolAt w B 0 pn dl rd a n c jn := by
  unfold PoolBlk at h
  exact ⟨PoolBlk.lt h, by simp [World.cell?, h], by simp [World.cell?, h], by simp [World.cell?, h], by simp [World.cell?, h], by simp [World.cell?, h]⟩
theorem PoolBlk.frozen (h : PoolBlk w B t pn dl rd a n c jn) (i : Nat) : w.frozen? ⟨B, i, none⟩ = false := by
  unfold PoolBlk at h
  simp [World.frozen?, h]
theorem PoolBlk.block (h : PoolBlk w B t pn dl rd a n c jn) (e : w'.heap[B]? = w.heap[B]?) : PoolBlk w' B t pn dl rd a n c jn := e.trans h
theorem PoolBlk.below (h : PoolBlk w B t pn dl rd a n c jn) (hb : Below w.heap.size w w') : PoolBlk w' B t pn dl rd a n c jn := h.block (hb.block B h.lt)
theorem PoolBlk.alloc (h : PoolBlk w B t pn dl rd a n c jn) (o : Obj) : PoolBlk (w.alloc o) B t pn dl rd a n c jn := h.block (Below.heap_alloc _ _ _ h.lt)
theorem PoolBlk.new (w : World) (t : TypeId) (pn dl rd : Int) (a : Option Addr) (n c : Nat) (jn : Int) :
    PoolBlk (w.alloc (.cells #[.int .i64 pn, .int .i64 dl, .int .i64 rd, .slice a n c, .int .i64 jn] t)) w.heap.size t pn dl rd a n c jn := Deep.blk_alloc_new _ _
theorem PoolBlk.setJoining (h : PoolBlk w B t pn dl rd a n c jn) (a' : Option Addr) (n' c' : Nat) : PoolBlk (w.setCell ⟨B, 3, none⟩ (.slice a' n' c')) B t pn dl rd a' n' c' jn := by
  unfold PoolBlk at h ⊢
  simp [World.setCell, Array.getElem?_modify, h]
theorem PoolBlk.setJn (h : PoolBlk w B t pn dl rd a n c jn) (jn' : Int) : PoolBlk (w.setCell ⟨B, 4, none⟩ (.int .i64 jn')) B t pn dl rd a n c jn' := by
  unfold PoolBlk at h ⊢
  simp [World.setCell, Array.getElem?_modify, h]
end

theorem pin_nil (w : World) : Calls Trym.prog 34 #[.pointer none] w fun x w' => x = .returned (.pointer none) ∧ w = w' := by
  go_enter Trym.func34, Trym.ntmps34
  go_wp2
  go_ret
  exact ⟨rfl, rfl⟩

set_option maxHeartbeats 2000000 in
set_option maxRecDepth 100000 in
/-- zzPoolIn of a pool whose list is nil. -/
theorem pin_bare (B : Nat) (pn dl rd jn : Int) (w : World) (hp : PoolAt w B 0 pn dl rd none 0 0 jn) :
    Calls Trym.prog 34 #[.pointer (some ⟨B, 0, none⟩)] w fun e w' => ∃ B', e = .returned (.pointer (some ⟨B', 0, none⟩)) ∧ w.heap.size ≤ B' ∧ PoolBlk w' B' 83 pn dl rd none 0 0 jn ∧ Below w.heap.size w w' := by
  obtain ⟨h0, h1, h2, h3, h4, h5⟩ := hp
  simp only [Nat.zero_add] at h2 h3 h4 h5
  have he := fun w => run_neq_slice_nil_any (P := Trym.prog) w 25 68 none 0 0 0 0 Trym.underlying25
  go_enter Trym.func34, Trym.ntmps34
  go_wp2
  go_region
  all_goals go_wp2
  all_goals go_ret
  all_goals exact ⟨w.heap.size, rfl, Nat.le_refl _, PoolBlk.new _ _ _ _ _ _ _ _ _, by go_grown⟩

set_option maxHeartbeats 2000000 in
set_option maxRecDepth 100000 in
theorem pin_some (B : Nat) (x : Addr) (n c : Nat) (pn dl rd jn : Int) (P Q : Nat → Int) (w : World) (hlen : n ≤ 1048576) (hp : PoolAt w B 0 pn dl rd (some x) n c jn) (hP : Prs .i64 w 0 (some x) n P Q) :
    Calls Trym.prog 34 #[.pointer (some ⟨B, 0, none⟩)] w fun e w' => ∃ B', e = .returned (.pointer (some ⟨B', 0, none⟩)) ∧ w.heap.size ≤ B' ∧ PoolBlk w' B' 83 pn dl rd (some ⟨w.heap.size, 0, none⟩) n n jn ∧
      Prs .i64 w' w.heap.size (some ⟨w.heap.size, 0, none⟩) n P Q ∧ Below w.heap.size w w' := by
  have Hp : Hid (PoolAt w B 0 pn dl rd (some x) n c jn) := hp
  obtain ⟨h0, h1, h2, h3, h4, h5⟩ := hp
  simp only [Nat.zero_add] at h2 h3 h4 h5
  have he := fun w => run_neq_slice_nil_any (P := Trym.prog) w 25 68 (some x) n c 0 0 Trym.underlying25
  have hmk := run_make_k (P := Trym.prog) 79 81 _ 2 16 Trym.underlying79 info81 .i64 .i64 n (by omega) (by omega)
  have HP : Hid (Prs .i64 w 0 (some x) n P Q) := hP
  have k4 : ∀ o, (w.alloc o).cell? ⟨B, 3, none⟩ = some (.slice (some x) n c) := fun o => by
    have := (((Below.refl _ w).alloc (Nat.le_refl _) o).cell (p := ⟨B, 3, none⟩) h0).trans h4
    exact this
  clear hP
  go_enter Trym.func34, Trym.ntmps34
  go_wp2
  clear he hmk h1 h2 h3 h4 h5 k4
  go_loopg [4, 23] n (fun g _ i wr => ∃ k : Nat, k ≤ n ∧ g = n - k ∧ i = .int .i64 k ∧ Below w.heap.size w wr ∧ PRow .i64 wr w.heap.size 81 n k P Q)
  case atStart => exact ⟨0, Nat.zero_le _, rfl, rfl, (Below.refl _ _).alloc (Nat.le_refl _) _, PRow.made _ _ _ _ _ _ _⟩
  case round =>
    obtain ⟨k, hk, rfl, rfl, hbel, hrow⟩ := hrel
    obtain ⟨h0', h1, h2, h3, h4, h5⟩ := Hp.out.below hbel
    simp only [Nat.zero_add] at h2 h3 h4 h5
    by_cases hlt : k < n
    · obtain ⟨b, off, hx, _, hbw, hc⟩ := HP.out (by omega)
      obtain rfl := Option.some.inj hx
      have g1 : wr.cell? ⟨b, off + k * 2, none⟩ = some (.int .i64 (P k)) := (hbel.cell (p := ⟨b, off + k * 2, none⟩) hbw).trans (hc k hlt).1
      have g2 : wr.cell? ⟨b, off + (k * 2 + 1), none⟩ = some (.int .i64 (Q k)) := (hbel.cell (p := ⟨b, off + (k * 2 + 1), none⟩) hbw).trans (hc k hlt).2
      have g2' : wr.cell? ⟨b, off + k * 2 + 1, none⟩ = some (.int .i64 (Q k)) := g2
      obtain ⟨v, v', g3, g4⟩ := hrow.ex hlt
      have f3 : wr.frozen? ⟨w.heap.size, k * 2, none⟩ = false := hrow.frozen _
      have f4 : wr.frozen? ⟨w.heap.size, k * 2 + 1, none⟩ = false := hrow.frozen _
      have i1 : (k : Int) < (n : Int) := by omega
      clear hc hx h1 h2 h3 h5
      go_wp2
      go_region
      all_goals go_wp2
      all_goals go_roundg (n - (k + 1))
      case measure => omega
      case rel => exact ⟨k + 1, by omega, rfl, by go_num, ((hbel.setCell (Nat.le_refl _) _).setCell (Nat.le_refl _) _).drew, (hrow.next hlt).drew⟩
    · have hkn : k = n := by omega
      subst hkn
      go_wp2
      go_region
      all_goals go_wp2
      all_goals go_ret
      all_goals exact ⟨wr.heap.size, rfl, hbel.size, PoolBlk.new _ _ _ _ _ _ _ _ _, (((hrow.prs (Nat.le_refl _)).drew).alloc _), ((hbel.drew).alloc hbel.size _)⟩

/-- zzPoolIn: a pool of its own, the same fields, the same list. -/
theorem pin_any (B : Nat) (a : Option Addr) (n c : Nat) (pn dl rd jn : Int) (P Q : Nat → Int) (w : World) (hlen : n ≤ 1048576) (hnil : a = none → n = 0 ∧ c = 0) (hp : PoolAt w B 0 pn dl rd a n c jn) (hP : Prs .i64 w 0 a n P Q) :
    Calls Trym.prog 34 #[.pointer (some ⟨B, 0, none⟩)] w fun e w' => ∃ B' a', e = .returned (.pointer (some ⟨B', 0, none⟩)) ∧ w.heap.size ≤ B' ∧ PoolBlk w' B' 83 pn dl rd a' n n jn ∧ (a' = none → n = 0) ∧
      Prs .i64 w' w.heap.size a' n P Q ∧ Below w.heap.size w w' := by
  cases a with
  | none =>
    obtain ⟨rfl, rfl⟩ := hnil rfl
    refine (pin_bare B pn dl rd jn w hp).mono ?_
    rintro e w' ⟨B', rfl, hB, hb, hbel⟩
    exact ⟨B', none, rfl, hB, hb, fun _ => rfl, Prs.zero _ _ _ _ _ _, hbel⟩
  | some x =>
    refine (pin_some B x n c pn dl rd jn P Q w hlen hp hP).mono ?_
    rintro e w' ⟨B', rfl, hB, hb, hP', hbel⟩
    exact ⟨B', _, rfl, hB, hb, fun h => (by cases h), hP', hbel⟩

theorem pout_nil (w : World) : Calls Trym.prog 36 #[.pointer none] w fun x w' => x = .returned (.pointer none) ∧ w = w' := by
  go_enter Trym.func36, Trym.ntmps36
  go_wp2
  go_ret
  exact ⟨rfl, rfl⟩

set_option maxHeartbeats 2000000 in
set_option maxRecDepth 100000 in
/-- zzPoolOut of a pool whose list is nil. -/
theorem pout_bare (B : Nat) (pn dl rd jn : Int) (w : World) (hp : PoolAt w B 0 pn dl rd none 0 0 jn) :
    Calls Trym.prog 36 #[.pointer (some ⟨B, 0, none⟩)] w fun e w' => ∃ B', e = .returned (.pointer (some ⟨B', 0, none⟩)) ∧ w.heap.size ≤ B' ∧ PoolBlk w' B' 27 pn dl rd none 0 0 jn ∧ Below w.heap.size w w' := by
  obtain ⟨h0, h1, h2, h3, h4, h5⟩ := hp
  simp only [Nat.zero_add] at h2 h3 h4 h5
  have he := fun w => run_neq_slice_nil_any (P := Trym.prog) w 79 81 none 0 0 0 0 Trym.underlying79
  go_enter Trym.func36, Trym.ntmps36
  go_wp2
  go_region
  all_goals go_wp2
  all_goals go_ret
  all_goals exact ⟨w.heap.size, rfl, Nat.le_refl _, PoolBlk.new _ _ _ _ _ _ _ _ _, by go_grown⟩

set_option maxHeartbeats 2000000 in
set_option maxRecDepth 100000 in
theorem pout_some (B : Nat) (x : Addr) (n c : Nat) (pn dl rd jn : Int) (P Q : Nat → Int) (w : World) (hlen : n ≤ 1048576) (hp : PoolAt w B 0 pn dl rd (some x) n c jn) (hP : Prs .i64 w 0 (some x) n P Q) :
    Calls Trym.prog 36 #[.pointer (some ⟨B, 0, none⟩)] w fun e w' => ∃ B', e = .returned (.pointer (some ⟨B', 0, none⟩)) ∧ w.heap.size ≤ B' ∧ PoolBlk w' B' 27 pn dl rd (some ⟨w.heap.size, 0, none⟩) n n jn ∧
      Prs .i64 w' w.heap.size (some ⟨w.heap.size, 0, none⟩) n P Q ∧ Below w.heap.size w w' := by
  have Hp : Hid (PoolAt w B 0 pn dl rd (some x) n c jn) := hp
  obtain ⟨h0, h1, h2, h3, h4, h5⟩ := hp
  simp only [Nat.zero_add] at h2 h3 h4 h5
  have he := fun w => run_neq_slice_nil_any (P := Trym.prog) w 79 81 (some x) n c 0 0 Trym.underlying79
  have hmk := run_make_k (P := Trym.prog) 25 68 _ 2 16 Trym.underlying25 info68 .i64 .i64 n (by omega) (by omega)
  have HP : Hid (Prs .i64 w 0 (some x) n P Q) := hP
  have k4 : ∀ o, (w.alloc o).cell? ⟨B, 3, none⟩ = some (.slice (some x) n c) := fun o => by
    have := (((Below.refl _ w).alloc (Nat.le_refl _) o).cell (p := ⟨B, 3, none⟩) h0).trans h4
    exact this
  clear hP
  go_enter Trym.func36, Trym.ntmps36
  go_wp2
  clear he hmk h1 h2 h3 h4 h5 k4
  go_loopg [4, 23] n (fun g _ i wr => ∃ k : Nat, k ≤ n ∧ g = n - k ∧ i = .int .i64 k ∧ Below w.heap.size w wr ∧ PRow .i64 wr w.heap.size 68 n k P Q)
  case atStart => exact ⟨0, Nat.zero_le _, rfl, rfl, (Below.refl _ _).alloc (Nat.le_refl _) _, PRow.made _ _ _ _ _ _ _⟩
  case round =>
    obtain ⟨k, hk, rfl, rfl, hbel, hrow⟩ := hrel
    obtain ⟨h0', h1, h2, h3, h4, h5⟩ := Hp.out.below hbel
    simp only [Nat.zero_add] at h2 h3 h4 h5
    by_cases hlt : k < n
    · obtain ⟨b, off, hx, _, hbw, hc⟩ := HP.out (by omega)
      obtain rfl := Option.some.inj hx
      have g1 : wr.cell? ⟨b, off + k * 2, none⟩ = some (.int .i64 (P k)) := (hbel.cell (p := ⟨b, off + k * 2, none⟩) hbw).trans (hc k hlt).1
      have g2 : wr.cell? ⟨b, off + (k * 2 + 1), none⟩ = some (.int .i64 (Q k)) := (hbel.cell (p := ⟨b, off + (k * 2 + 1), none⟩) hbw).trans (hc k hlt).2
      have g2' : wr.cell? ⟨b, off + k * 2 + 1, none⟩ = some (.int .i64 (Q k)) := g2
      obtain ⟨v, v', g3, g4⟩ := hrow.ex hlt
      have f3 : wr.frozen? ⟨w.heap.size, k * 2, none⟩ = false := hrow.frozen _
      have f4 : wr.frozen? ⟨w.heap.size, k * 2 + 1, none⟩ = false := hrow.frozen _
      have i1 : (k : Int) < (n : Int) := by omega
      clear hc hx h1 h2 h3 h5
      go_wp2
      go_region
      all_goals go_wp2
      all_goals go_roundg (n - (k + 1))
      case measure => omega
      case rel => exact ⟨k + 1, by omega, rfl, by go_num, ((hbel.setCell (Nat.le_refl _) _).setCell (Nat.le_refl _) _).drew, (hrow.next hlt).drew⟩
    · have hkn : k = n := by omega
      subst hkn
      go_wp2
      go_region
      all_goals go_wp2
      all_goals go_ret
      all_goals exact ⟨wr.heap.size, rfl, hbel.size, PoolBlk.new _ _ _ _ _ _ _ _ _, (((hrow.prs (Nat.le_refl _)).drew).alloc _), ((hbel.drew).alloc hbel.size _)⟩

/-- zzPoolOut: a pool of its own, the same fields, the same list. -/
theorem pout_any (B : Nat) (a : Option Addr) (n c : Nat) (pn dl rd jn : Int) (P Q : Nat → Int) (w : World) (hlen : n ≤ 1048576) (hnil : a = none → n = 0 ∧ c = 0) (hp : PoolAt w B 0 pn dl rd a n c jn) (hP : Prs .i64 w 0 a n P Q) :
    Calls Trym.prog 36 #[.pointer (some ⟨B, 0, none⟩)] w fun e w' => ∃ B' a', e = .returned (.pointer (some ⟨B', 0, none⟩)) ∧ w.heap.size ≤ B' ∧ PoolBlk w' B' 27 pn dl rd a' n n jn ∧ (a' = none → n = 0) ∧
      Prs .i64 w' w.heap.size a' n P Q ∧ Below w.heap.size w w' := by
  cases a with
  | none =>
    obtain ⟨rfl, rfl⟩ := hnil rfl
    refine (pout_bare B pn dl rd jn w hp).mono ?_
    rintro e w' ⟨B', rfl, hB, hb, hbel⟩
    exact ⟨B', none, rfl, hB, hb, fun _ => rfl, Prs.zero _ _ _ _ _ _, hbel⟩
  | some x =>
    refine (pout_some B x n c pn dl rd jn P Q w hlen hp hP).mono ?_
    rintro e w' ⟨B', rfl, hB, hb, hP', hbel⟩
    exact ⟨B', _, rfl, hB, hb, fun h => (by cases h), hP', hbel⟩

end Go.Proofs.Qxb6601136aMods.Pool
