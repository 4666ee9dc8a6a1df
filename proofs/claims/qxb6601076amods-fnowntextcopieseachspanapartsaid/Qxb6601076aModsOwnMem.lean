/- Slices of bytes, slices of slices of bytes; the contracts of cloneBytes, cloneBools, cloneBytes2D, sameBytes. -/
import Derived.Test.Qxb6601076aModsBase
namespace Go.Proofs.Qxb6601076aMods.Own
open Go.ChangeShapes Go.WideShapes Go.ChangeAt Go.RowKit
open Go.Proofs.Qxb6601076aMods.Base
set_option linter.unusedSimpArgs false
set_option linter.unusedVariables false

theorem info5 : (Trym.prog.info? 5).map (fun i => (i.zero, i.size, i.bytes)) = some (some (.int .u8 0), 1, 1) := by kernel_rfl
theorem info4 : (Trym.prog.info? 4).map (fun i => (i.zero, i.size, i.bytes)) = some (some (.bool false), 1, 1) := by kernel_rfl
theorem info40 : (Trym.prog.info? 40).map (fun i => (i.zero, i.size, i.bytes)) = some (some (.slice none 0 0), 1, 24) := by kernel_rfl

/-- The n cells behind the address, where there is one at all; the block is from lo on. -/
def Cells (w : World) (lo : Nat) (a : Option Addr) (n : Nat) (f : Nat → Value) : Prop :=
  0 < n → ∃ b off, a = some ⟨b, off, none⟩ ∧ lo ≤ b ∧ b < w.heap.size ∧ ∀ j, j < n → w.cell? ⟨b, off + j, none⟩ = some (f j)

theorem Cells.below {w w' : World} {lo : Nat} {a : Option Addr} {n : Nat} {f : Nat → Value} (h : Cells w lo a n f) (hb : Below w.heap.size w w') : Cells w' lo a n f := by
  intro hn
  obtain ⟨b, off, ha, hlo, hbw, hc⟩ := h hn
  exact ⟨b, off, ha, hlo, Nat.lt_of_lt_of_le hbw hb.size, fun j hj => (hb.cell (p := ⟨b, off + j, none⟩) hbw).trans (hc j hj)⟩

theorem Cells.mono {w : World} {lo lo' : Nat} {a : Option Addr} {n : Nat} {f : Nat → Value} (h : Cells w lo a n f) (hl : lo' ≤ lo) : Cells w lo' a n f := by
  intro hn
  obtain ⟨b, off, ha, hlo, r⟩ := h hn
  exact ⟨b, off, ha, Nat.le_trans hl hlo, r⟩

theorem Cells.setOther {w : World} {lo : Nat} {a : Option Addr} {n : Nat} {f : Nat → Value} (h : Cells w lo a n f) {p : Addr} (hp : p.block < lo) (v : Value) : Cells (w.setCell p v) lo a n f := by
  intro hn
  obtain ⟨b, off, ha, hlo, hbw, hc⟩ := h hn
  refine ⟨b, off, ha, hlo, by simpa using hbw, fun j hj => ?_⟩
  rw [World.cell?_of_block (w := w) (a := ⟨b, off + j, none⟩) (Below.heap_setCell w p v b (by omega))]
  exact hc j hj

/-- A slice of bytes. -/
def byt (z : Nat → Int) : Nat → Value := fun j => .int .u8 (z j)

set_option maxHeartbeats 400000 in
theorem cb_nil (w : World) : Calls Trym.prog 26 #[.slice none 0 0] w fun x w' => x = .returned (.slice none 0 0) ∧ w = w' := by
  have he := fun w => Lib.run_eql_slice_nil (P := Trym.prog) w 40 5 none 0 0 0 0 Trym.underlying40
  go_enter Trym.func26, Trym.ntmps26
  go_wp2
  go_ret
  exact ⟨rfl, rfl⟩

theorem cb_zero (x : Addr) (cap : Nat) (w : World) : Calls Trym.prog 26 #[.slice (some x) 0 cap] w fun e w' => e = .returned (.slice (some ⟨w.heap.size, 0, none⟩) 0 0) ∧ Below w.heap.size w w' := by
  have he := fun w => Lib.run_eql_slice_nil (P := Trym.prog) w 40 5 (some x) 0 cap 0 0 Trym.underlying40
  have hmk : ∀ w : World, (Instr.makeSlice 40 (.int .i64 0) (.int .i64 0)).run Trym.prog w = .ok (.slice (some ⟨w.heap.size, 0, none⟩) 0 0) (w.alloc (.cells (madeCells #[.int .u8 0] 0) 5)) := fun w => run_make_row' (P := Trym.prog) 40 5 (.int .u8 0) 1 Trym.underlying40 info5 rfl .i64 .i64 0 (by omega) (by omega) w
  go_enter Trym.func26, Trym.ntmps26
  go_wp2
  go_rounds 1
  go_ret
  exact ⟨rfl, (Below.refl _ _).alloc (Nat.le_refl _) _⟩

theorem cb_pos (b off len cap : Nat) (z : Nat → Int) (w : World) (hlen : len ≤ 1048576) (hb : b < w.heap.size) (hc : ∀ j, j < len → w.cell? ⟨b, off + j, none⟩ = some (.int .u8 (z j))) :
    Calls Trym.prog 26 #[.slice (some ⟨b, off, none⟩) len cap] w fun e w' => e = .returned (.slice (some ⟨w.heap.size, 0, none⟩) len len) ∧ Below w.heap.size w w' ∧
      w'.rowIs w.heap.size 5 len (fun j => .int .u8 (z j)) := by
  have he := fun w => Lib.run_eql_slice_nil (P := Trym.prog) w 40 5 (some ⟨b, off, none⟩) len cap 0 0 Trym.underlying40
  have hmk := run_make_row' (P := Trym.prog) 40 5 (.int .u8 0) 1 Trym.underlying40 info5 rfl .i64 .i64 len (by omega) (by omega)
  go_enter Trym.func26, Trym.ntmps26
  go_wp2
  clear he hmk
  go_loopg [4] len (fun g i wr => ∃ k : Nat, k ≤ len ∧ g = len - k ∧ i = .int .i64 k ∧ Below w.heap.size w wr ∧
     wr.rowIs w.heap.size 5 len (fun j => if j < k then .int .u8 (z j) else .int .u8 0))
  case atStart => exact ⟨0, Nat.zero_le _, rfl, rfl, (Below.refl _ _).alloc (Nat.le_refl _) _, (World.rowIs_made w _ len 5).congr (fun j _ => by simp)⟩
  case round =>
    obtain ⟨k, hk, rfl, rfl, hbel, hrow⟩ := hrel
    by_cases hlt : k < len
    · have g1 : wr.cell? ⟨b, off + k, none⟩ = some (.int .u8 (z k)) := (hbel.cell (p := ⟨b, off + k, none⟩) hb).trans (hc k hlt)
      have g2 : wr.cell? ⟨w.heap.size, k, none⟩ = some (.int .u8 0) := by simpa using hrow.cell hlt
      have g3 : wr.frozen? ⟨w.heap.size, k, none⟩ = false := hrow.frozen k
      have Hc := hc
      clear hc
      go_wp2
      go_roundg (len - (k + 1))
      case measure => omega
      case rel => exact ⟨k + 1, by omega, rfl, by go_num, hbel.setCell (Nat.le_refl _) _, (hrow.set k _).congr (fun j _ => by by_cases e : j = k <;> simp [e]; by_cases e2 : j < k <;> simp [e2] <;> omega)⟩
    · go_wp2
      go_ret
      exact ⟨rfl, hbel, hrow.congr (fun j hj => by rw [if_pos (by omega)])⟩

/-- cloneBytes: a slice of its own, the same bytes. -/
theorem cb_any (a : Option Addr) (n cap : Nat) (z : Nat → Int) (w : World) (hn : n ≤ 1048576) (hnil : a = none → n = 0 ∧ cap = 0) (hz : Cells w 0 a n (byt z)) :
    Calls Trym.prog 26 #[.slice a n cap] w fun e w' => ∃ a' c', e = .returned (.slice a' n c') ∧ (a' = none → n = 0 ∧ c' = 0) ∧ Cells w' w.heap.size a' n (byt z) ∧ Below w.heap.size w w' := by
  cases a with
  | none =>
    obtain ⟨rfl, rfl⟩ := hnil rfl
    refine (cb_nil w).mono ?_
    rintro e w' ⟨rfl, rfl⟩
    exact ⟨none, 0, rfl, fun _ => ⟨rfl, rfl⟩, fun h => absurd h (Nat.lt_irrefl _), Below.refl _ _⟩
  | some x =>
    by_cases h0 : n = 0
    · subst h0
      refine (cb_zero x cap w).mono ?_
      rintro e w' ⟨rfl, hb⟩
      exact ⟨_, _, rfl, fun h => (by cases h), fun h => absurd h (Nat.lt_irrefl _), hb⟩
    · obtain ⟨b, off, hx, _, hbw, hc⟩ := hz (by omega)
      obtain rfl := Option.some.inj hx
      refine (cb_pos b off n cap z w hn hbw hc).mono ?_
      rintro e w' ⟨rfl, hb, hrow⟩
      exact ⟨_, _, rfl, fun h => (by cases h), fun _ => ⟨w.heap.size, 0, rfl, Nat.le_refl _, hrow.lt, fun j hj => by rw [Nat.zero_add]; exact hrow.cell hj⟩, hb⟩

/-- A slice of bools. -/
def boo (z : Nat → Bool) : Nat → Value := fun j => .bool (z j)

set_option maxHeartbeats 400000 in
theorem cl_nil (w : World) : Calls Trym.prog 18 #[.slice none 0 0] w fun x w' => x = .returned (.slice none 0 0) ∧ w = w' := by
  have he := fun w => Lib.run_eql_slice_nil (P := Trym.prog) w 38 4 none 0 0 0 0 Trym.underlying38
  go_enter Trym.func18, Trym.ntmps18
  go_wp2
  go_ret
  exact ⟨rfl, rfl⟩

theorem cl_zero (x : Addr) (cap : Nat) (w : World) : Calls Trym.prog 18 #[.slice (some x) 0 cap] w fun e w' => e = .returned (.slice (some ⟨w.heap.size, 0, none⟩) 0 0) ∧ Below w.heap.size w w' := by
  have he := fun w => Lib.run_eql_slice_nil (P := Trym.prog) w 38 4 (some x) 0 cap 0 0 Trym.underlying38
  have hmk : ∀ w : World, (Instr.makeSlice 38 (.int .i64 0) (.int .i64 0)).run Trym.prog w = .ok (.slice (some ⟨w.heap.size, 0, none⟩) 0 0) (w.alloc (.cells (madeCells #[.bool false] 0) 4)) := fun w => run_make_row' (P := Trym.prog) 38 4 (.bool false) 1 Trym.underlying38 info4 rfl .i64 .i64 0 (by omega) (by omega) w
  go_enter Trym.func18, Trym.ntmps18
  go_wp2
  go_rounds 1
  go_ret
  exact ⟨rfl, (Below.refl _ _).alloc (Nat.le_refl _) _⟩

theorem cl_pos (b off len cap : Nat) (z : Nat → Bool) (w : World) (hlen : len ≤ 1048576) (hb : b < w.heap.size) (hc : ∀ j, j < len → w.cell? ⟨b, off + j, none⟩ = some (.bool (z j))) :
    Calls Trym.prog 18 #[.slice (some ⟨b, off, none⟩) len cap] w fun e w' => e = .returned (.slice (some ⟨w.heap.size, 0, none⟩) len len) ∧ Below w.heap.size w w' ∧
      w'.rowIs w.heap.size 4 len (fun j => .bool (z j)) := by
  have he := fun w => Lib.run_eql_slice_nil (P := Trym.prog) w 38 4 (some ⟨b, off, none⟩) len cap 0 0 Trym.underlying38
  have hmk := run_make_row' (P := Trym.prog) 38 4 (.bool false) 1 Trym.underlying38 info4 rfl .i64 .i64 len (by omega) (by omega)
  go_enter Trym.func18, Trym.ntmps18
  go_wp2
  clear he hmk
  go_loopg [4] len (fun g i wr => ∃ k : Nat, k ≤ len ∧ g = len - k ∧ i = .int .i64 k ∧ Below w.heap.size w wr ∧
     wr.rowIs w.heap.size 4 len (fun j => if j < k then .bool (z j) else .bool false))
  case atStart => exact ⟨0, Nat.zero_le _, rfl, rfl, (Below.refl _ _).alloc (Nat.le_refl _) _, (World.rowIs_made w _ len 4).congr (fun j _ => by simp)⟩
  case round =>
    obtain ⟨k, hk, rfl, rfl, hbel, hrow⟩ := hrel
    by_cases hlt : k < len
    · have g1 : wr.cell? ⟨b, off + k, none⟩ = some (.bool (z k)) := (hbel.cell (p := ⟨b, off + k, none⟩) hb).trans (hc k hlt)
      have g2 : wr.cell? ⟨w.heap.size, k, none⟩ = some (.bool false) := by simpa using hrow.cell hlt
      have g3 : wr.frozen? ⟨w.heap.size, k, none⟩ = false := hrow.frozen k
      have Hc := hc
      clear hc
      go_wp2
      go_roundg (len - (k + 1))
      case measure => omega
      case rel => exact ⟨k + 1, by omega, rfl, by go_num, hbel.setCell (Nat.le_refl _) _, (hrow.set k _).congr (fun j _ => by by_cases e : j = k <;> simp [e]; by_cases e2 : j < k <;> simp [e2] <;> omega)⟩
    · go_wp2
      go_ret
      exact ⟨rfl, hbel, hrow.congr (fun j hj => by rw [if_pos (by omega)])⟩

/-- cloneBools: a slice of its own, the same bools. -/
theorem cl_any (a : Option Addr) (n cap : Nat) (z : Nat → Bool) (w : World) (hn : n ≤ 1048576) (hnil : a = none → n = 0 ∧ cap = 0) (hz : Cells w 0 a n (boo z)) :
    Calls Trym.prog 18 #[.slice a n cap] w fun e w' => ∃ a' c', e = .returned (.slice a' n c') ∧ (a' = none → n = 0 ∧ c' = 0) ∧ Cells w' w.heap.size a' n (boo z) ∧ Below w.heap.size w w' := by
  cases a with
  | none =>
    obtain ⟨rfl, rfl⟩ := hnil rfl
    refine (cl_nil w).mono ?_
    rintro e w' ⟨rfl, rfl⟩
    exact ⟨none, 0, rfl, fun _ => ⟨rfl, rfl⟩, fun h => absurd h (Nat.lt_irrefl _), Below.refl _ _⟩
  | some x =>
    by_cases h0 : n = 0
    · subst h0
      refine (cl_zero x cap w).mono ?_
      rintro e w' ⟨rfl, hb⟩
      exact ⟨_, _, rfl, fun h => (by cases h), fun h => absurd h (Nat.lt_irrefl _), hb⟩
    · obtain ⟨b, off, hx, _, hbw, hc⟩ := hz (by omega)
      obtain rfl := Option.some.inj hx
      refine (cl_pos b off n cap z w hn hbw hc).mono ?_
      rintro e w' ⟨rfl, hb, hrow⟩
      exact ⟨_, _, rfl, fun h => (by cases h), fun _ => ⟨w.heap.size, 0, rfl, Nat.le_refl _, hrow.lt, fun j hj => by rw [Nat.zero_add]; exact hrow.cell hj⟩, hb⟩

/-- A slice of slices of bytes: the rows' lengths and bytes; each row's block is from lo on. -/
def Grid (w : World) (lo : Nat) (a : Option Addr) (m : Nat) (Ln : Nat → Nat) (Z : Nat → Nat → Int) : Prop :=
  0 < m → ∃ b off, ∃ A : Nat → Option Addr, ∃ Cp : Nat → Nat, a = some ⟨b, off, none⟩ ∧ lo ≤ b ∧ b < w.heap.size ∧
    ∀ i, i < m → w.cell? ⟨b, off + i, none⟩ = some (.slice (A i) (Ln i) (Cp i)) ∧ (A i = none → Ln i = 0 ∧ Cp i = 0) ∧ Cells w lo (A i) (Ln i) (byt (Z i))

theorem Grid.below {w w' : World} {lo : Nat} {a : Option Addr} {m : Nat} {Ln : Nat → Nat} {Z : Nat → Nat → Int} (h : Grid w lo a m Ln Z) (hb : Below w.heap.size w w') : Grid w' lo a m Ln Z := by
  intro hm
  obtain ⟨b, off, A, Cp, ha, hlo, hbw, hc⟩ := h hm
  exact ⟨b, off, A, Cp, ha, hlo, Nat.lt_of_lt_of_le hbw hb.size, fun i hi => ⟨(hb.cell (p := ⟨b, off + i, none⟩) hbw).trans (hc i hi).1, (hc i hi).2.1, (hc i hi).2.2.below hb⟩⟩

theorem c2_nil (w : World) : Calls Trym.prog 17 #[.slice none 0 0] w fun x w' => x = .returned (.slice none 0 0) ∧ w = w' := by
  have he := fun w => Lib.run_eql_slice_nil (P := Trym.prog) w 37 40 none 0 0 0 0 Trym.underlying37
  go_enter Trym.func17, Trym.ntmps17
  go_wp2
  go_ret
  exact ⟨rfl, rfl⟩

theorem c2_zero (x : Addr) (cap : Nat) (w : World) : Calls Trym.prog 17 #[.slice (some x) 0 cap] w fun e w' => e = .returned (.slice (some ⟨w.heap.size, 0, none⟩) 0 0) ∧ Below w.heap.size w w' := by
  have he := fun w => Lib.run_eql_slice_nil (P := Trym.prog) w 37 40 (some x) 0 cap 0 0 Trym.underlying37
  have hmk : ∀ w : World, (Instr.makeSlice 37 (.int .i64 0) (.int .i64 0)).run Trym.prog w = .ok (.slice (some ⟨w.heap.size, 0, none⟩) 0 0) (w.alloc (.cells (madeCells #[.slice none 0 0] 0) 40)) := fun w => run_make_row' (P := Trym.prog) 37 40 (.slice none 0 0) 24 Trym.underlying37 info40 rfl .i64 .i64 0 (by omega) (by omega) w
  go_enter Trym.func17, Trym.ntmps17
  go_wp2
  go_rounds 1
  go_ret
  exact ⟨rfl, (Below.refl _ _).alloc (Nat.le_refl _) _⟩

/-- What holds in cloneBytes2D's loop. -/
structure C2 (w wr : World) (m k : Nat) (Ln : Nat → Nat) (Z : Nat → Nat → Int) (A : Nat → Option Addr) (Cp : Nat → Nat) : Prop where
  bel : Below w.heap.size w wr
  row : wr.rowIs w.heap.size 40 m (fun j => if j < k then .slice (A j) (Ln j) (Cp j) else .slice none 0 0)
  nil : ∀ j, j < k → A j = none → Ln j = 0 ∧ Cp j = 0
  cel : ∀ j, j < k → Cells wr (w.heap.size + 1) (A j) (Ln j) (byt (Z j))

theorem C2.next {w wr w2 : World} {m k : Nat} {Ln : Nat → Nat} {Z : Nat → Nat → Int} {A : Nat → Option Addr} {Cp : Nat → Nat} (h : C2 w wr m k Ln Z A Cp) (hk : k < m) {a' : Option Addr} {c' : Nat}
    (hb : Below wr.heap.size wr w2) (hn : a' = none → Ln k = 0 ∧ c' = 0) (hc : Cells w2 wr.heap.size a' (Ln k) (byt (Z k))) :
    C2 w (w2.setCell ⟨w.heap.size, k, none⟩ (.slice a' (Ln k) c')) m (k + 1) Ln Z (fun j => if j = k then a' else A j) (fun j => if j = k then c' else Cp j) := by
  have hlt := h.row.lt
  refine ⟨(h.bel.trans (hb.mono h.bel.size)).setCell (Nat.le_refl _) _, ((h.row.of_block (hb.block _ hlt)).set k _).congr (fun j hj => ?_), fun j hj => ?_, fun j hj => ?_⟩
  · by_cases e : j = k
    · subst e; simp
    · simp only [if_neg e]
      by_cases e2 : j < k
      · rw [if_pos e2, if_pos (by omega)]
      · rw [if_neg e2, if_neg (by omega)]
  · by_cases e : j = k
    · subst e; simpa using hn
    · simp only [if_neg e]; exact h.nil j (by omega)
  · by_cases e : j = k
    · subst e; simp only [if_true]
      exact (hc.mono (by omega)).setOther (p := ⟨w.heap.size, j, none⟩) (by show w.heap.size < _; omega) _
    · simp only [if_neg e]
      exact ((h.cel j (by omega)).below hb).setOther (p := ⟨w.heap.size, k, none⟩) (by show w.heap.size < _; omega) _

set_option maxHeartbeats 400000 in
theorem c2_pos (b off m cap : Nat) (A : Nat → Option Addr) (Cp Ln : Nat → Nat) (Z : Nat → Nat → Int) (w : World) (hm : m ≤ 1048576) (hln : ∀ i, i < m → Ln i ≤ 1048576) (hb : b < w.heap.size)
    (hc : ∀ i, i < m → w.cell? ⟨b, off + i, none⟩ = some (.slice (A i) (Ln i) (Cp i)) ∧ (A i = none → Ln i = 0 ∧ Cp i = 0) ∧ Cells w 0 (A i) (Ln i) (byt (Z i))) :
    Calls Trym.prog 17 #[.slice (some ⟨b, off, none⟩) m cap] w fun e w' => e = .returned (.slice (some ⟨w.heap.size, 0, none⟩) m m) ∧ ∃ A' Cp', C2 w w' m m Ln Z A' Cp' := by
  have he := fun w => Lib.run_eql_slice_nil (P := Trym.prog) w 37 40 (some ⟨b, off, none⟩) m cap 0 0 Trym.underlying37
  have hmk := run_make_row' (P := Trym.prog) 37 40 (.slice none 0 0) 24 Trym.underlying37 info40 rfl .i64 .i64 m (by omega) (by omega)
  have Hc : Hid (∀ i, i < m → w.cell? ⟨b, off + i, none⟩ = some (.slice (A i) (Ln i) (Cp i)) ∧ (A i = none → Ln i = 0 ∧ Cp i = 0) ∧ Cells w 0 (A i) (Ln i) (byt (Z i))) := hc
  have Hln : Hid (∀ i, i < m → Ln i ≤ 1048576) := hln
  clear hc hln
  go_enter Trym.func17, Trym.ntmps17
  go_wp2
  clear he hmk
  go_loopg [4] m (fun g i wr => ∃ k : Nat, ∃ A' : Nat → Option Addr, ∃ Cp' : Nat → Nat, k ≤ m ∧ g = m - k ∧ i = .int .i64 k ∧ C2 w wr m k Ln Z A' Cp')
  case atStart => exact ⟨0, fun _ => none, fun _ => 0, Nat.zero_le _, rfl, rfl, (Below.refl _ _).alloc (Nat.le_refl _) _, (World.rowIs_made w _ m 40).congr (fun j _ => by simp), fun j hj => absurd hj (Nat.not_lt_zero _), fun j hj => absurd hj (Nat.not_lt_zero _)⟩
  case round =>
    obtain ⟨k, A', Cp', hk, rfl, rfl, hC⟩ := hrel
    by_cases hlt : k < m
    · have g1 : wr.cell? ⟨b, off + k, none⟩ = some (.slice (A k) (Ln k) (Cp k)) := (hC.bel.cell (p := ⟨b, off + k, none⟩) hb).trans (Hc.out k hlt).1
      have q1 : Hid (A k = none → Ln k = 0 ∧ Cp k = 0) := (Hc.out k hlt).2.1
      have q2 : Hid (Cells wr 0 (A k) (Ln k) (byt (Z k))) := (Hc.out k hlt).2.2.below hC.bel
      have q3 : Ln k ≤ 1048576 := Hln.out k hlt
      go_wp2_with fail
      refine (cb_any _ _ _ _ _ q3 q1.out q2.out).mono ?_
      rintro e w2 ⟨a', c', rfl, hn', hc', hb'⟩
      have hN := hC.next hlt hb' hn' hc'
      have g2 : w2.cell? ⟨w.heap.size, k, none⟩ = some (.slice none 0 0) := by
        have := (hC.row.of_block (hb'.block _ hC.row.lt)).cell hlt
        simpa using this
      have g3 : w2.frozen? ⟨w.heap.size, k, none⟩ = false := (hC.row.of_block (hb'.block _ hC.row.lt)).frozen k
      have HN : Hid _ := hN
      clear g1 q1 q2 hn' hc' hN
      go_wp2
      go_roundg (m - (k + 1))
      case measure => omega
      case rel => exact ⟨k + 1, _, _, by omega, rfl, by go_num, HN.out⟩
    · have hkm : k = m := by omega
      subst hkm
      go_wp2
      go_ret
      exact ⟨rfl, _, _, hC⟩

/-- cloneBytes2D: a slice of slices of its own, the same bytes. -/
theorem c2_any (a : Option Addr) (m cap : Nat) (Ln : Nat → Nat) (Z : Nat → Nat → Int) (w : World) (hm : m ≤ 1048576) (hln : ∀ i, i < m → Ln i ≤ 1048576) (hnil : a = none → m = 0 ∧ cap = 0) (hz : Grid w 0 a m Ln Z) :
    Calls Trym.prog 17 #[.slice a m cap] w fun e w' => ∃ a' c', e = .returned (.slice a' m c') ∧ (a' = none → m = 0 ∧ c' = 0) ∧ Grid w' w.heap.size a' m Ln Z ∧ Below w.heap.size w w' := by
  cases a with
  | none =>
    obtain ⟨rfl, rfl⟩ := hnil rfl
    refine (c2_nil w).mono ?_
    rintro e w' ⟨rfl, rfl⟩
    exact ⟨none, 0, rfl, fun _ => ⟨rfl, rfl⟩, fun h => absurd h (Nat.lt_irrefl _), Below.refl _ _⟩
  | some x =>
    by_cases h0 : m = 0
    · subst h0
      refine (c2_zero x cap w).mono ?_
      rintro e w' ⟨rfl, hb⟩
      exact ⟨_, _, rfl, fun h => (by cases h), fun h => absurd h (Nat.lt_irrefl _), hb⟩
    · obtain ⟨b, off, A, Cp, hx, _, hbw, hc⟩ := hz (by omega)
      obtain rfl := Option.some.inj hx
      refine (c2_pos b off m cap A Cp Ln Z w hm hln hbw hc).mono ?_
      rintro e w' ⟨rfl, A', Cp', hC⟩
      exact ⟨_, _, rfl, fun h => (by cases h), fun _ => ⟨w.heap.size, 0, A', Cp', rfl, Nat.le_refl _, hC.row.lt, fun i hi => ⟨by rw [Nat.zero_add, hC.row.cell hi, if_pos hi], hC.nil i hi, (hC.cel i hi).mono (by omega)⟩⟩, hC.bel⟩

end Go.Proofs.Qxb6601076aMods.Own
