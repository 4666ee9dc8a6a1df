/- Slices of pairs (requests, cohorts); the contracts of cloneRequests, cloneCohorts, zzRequests, zzCohorts. -/
import Derived.Test.Qxb6601136aModsRows
import Derived.WalkKit
import Derived.ProofKit
import Derived.OpenShut
import Derived.Below
import Derived.Deep.LoopGhost
import Derived.Deep.OwnRows
import Derived.BigQuiet
import Derived.BigRegion
import Derived.WalkSpells
import Derived.WalkSmall
import Derived.Handy
import Derived.Maps.AppendAt
namespace Go.Proofs.Qxb6601136aMods.Mem
open Go.ChangeShapes Go.WideShapes Go.ChangeAt Go.RowKit
set_option linter.unusedSimpArgs false
set_option linter.unusedVariables false

theorem info63 : (Trym.prog.info? 63).map (fun i => (i.zero, i.size, i.bytes)) = some (some (.agg #[.int .i64 0, .int .i64 0]), 2, 16) := by kernel_rfl
theorem info68 : (Trym.prog.info? 68).map (fun i => (i.zero, i.size, i.bytes)) = some (some (.agg #[.int .i64 0, .int .i64 0]), 2, 16) := by kernel_rfl
theorem info81 : (Trym.prog.info? 81).map (fun i => (i.zero, i.size, i.bytes)) = some (some (.agg #[.int .i64 0, .int .i64 0]), 2, 16) := by kernel_rfl
theorem info70 : (Trym.prog.info? 70).map (fun i => (i.zero, i.size, i.bytes)) = some (some (.agg #[.int .i64 0, .int .i32 0]), 2, 16) := by kernel_rfl
theorem info77 : (Trym.prog.info? 77).map (fun i => (i.zero, i.size, i.bytes)) = some (some (.agg #[.int .i64 0, .int .i32 0]), 2, 16) := by kernel_rfl
theorem info86 : (Trym.prog.info? 86).map (fun i => (i.zero, i.size, i.bytes)) = some (some (.agg #[.int .i64 0, .int .i32 0]), 2, 16) := by kernel_rfl

/-- 'make' of a row whose elements have several cells. -/
theorem run_make_k {P : Program} (t e : TypeId) (z : Value) (size bytes : Nat) (ht : P.underlying t = some (.slice e)) (hinfo : (P.info? e).map (fun i => (i.zero, i.size, i.bytes)) = some (some z, size, bytes))
    (kl kc : IntKind) (n : Nat) (hbytes : bytes * n ≤ 281474976710656) (h63 : n ≤ 9223372036854775807) (w : World) :
    (Instr.makeSlice t (.int kl (n : Int)) (.int kc (n : Int))).run P w = .ok (.slice (some ⟨w.heap.size, 0, none⟩) n n) (w.alloc (.cells (madeCells z.cells (n * size)) e)) := by
  obtain ⟨i, hi, hzz⟩ := Option.map_eq_some_iff.1 hinfo
  simp only [Prod.mk.injEq] at hzz
  obtain ⟨hz, hs, hb⟩ := hzz
  have hb' : (i.bytes : Int) * (n : Int) ≤ 281474976710656 := by
    rw [hb]
    have h : ((bytes * n : Nat) : Int) ≤ 281474976710656 := by omega
    rwa [Int.natCast_mul] at h
  have hr := run_make (P := P) w t e i z ht hi hz kl kc n n (by omega) (Int.le_refl _) hb' (by omega)
  simp only [Int.toNat_natCast, hs] at hr
  exact hr

/-- A slice of n pairs: the cells behind the address, where there is one at all; the block is from lo on. -/
def Prs (kd : IntKind) (w : World) (lo : Nat) (a : Option Addr) (n : Nat) (P Q : Nat → Int) : Prop :=
  0 < n → ∃ b off, a = some ⟨b, off, none⟩ ∧ lo ≤ b ∧ b < w.heap.size ∧ ∀ j, j < n → w.cell? ⟨b, off + j * 2, none⟩ = some (.int .i64 (P j)) ∧ w.cell? ⟨b, off + (j * 2 + 1), none⟩ = some (.int kd (Q j))

section
variable {kd : IntKind} {w w' : World} {lo lo' : Nat} {a : Option Addr} {n : Nat} {P Q : Nat → Int}
theorem Prs.below (h : Prs kd w lo a n P Q) (hb : Below w.heap.size w w') : Prs kd w' lo a n P Q := by
  intro hn
  obtain ⟨b, off, ha, hlo, hbw, hc⟩ := h hn
  exact ⟨b, off, ha, hlo, Nat.lt_of_lt_of_le hbw hb.size, fun j hj => ⟨(hb.cell (p := ⟨b, off + j * 2, none⟩) hbw).trans (hc j hj).1, (hb.cell (p := ⟨b, off + (j * 2 + 1), none⟩) hbw).trans (hc j hj).2⟩⟩
theorem Prs.mono (h : Prs kd w lo a n P Q) (hl : lo' ≤ lo) : Prs kd w lo' a n P Q := by
  intro hn
  obtain ⟨b, off, ha, hlo, r⟩ := h hn
  exact ⟨b, off, ha, Nat.le_trans hl hlo, r⟩
theorem Prs.alloc (h : Prs kd w lo a n P Q) (o : Obj) : Prs kd (w.alloc o) lo a n P Q := h.below ((Below.refl _ _).alloc (Nat.le_refl _) o)
theorem Prs.drewN (h : Prs kd w lo a n P Q) (k : Nat) : Prs kd (w.drewN k) lo a n P Q := h
theorem Prs.drew (h : Prs kd w lo a n P Q) : Prs kd w.drew lo a n P Q := h
theorem Prs.setOther (h : Prs kd w lo a n P Q) {p : Addr} (hp : p.block < lo) (v : Value) : Prs kd (w.setCell p v) lo a n P Q := by
  intro hn
  obtain ⟨b, off, ha, hlo, hbw, hc⟩ := h hn
  have e : (w.setCell p v).heap[b]? = w.heap[b]? := Below.heap_setCell w p v b (by omega)
  refine ⟨b, off, ha, hlo, by simpa using hbw, fun j hj => ⟨?_, ?_⟩⟩
  · rw [World.cell?_of_block (w := w) (a := ⟨b, off + j * 2, none⟩) e]; exact (hc j hj).1
  · rw [World.cell?_of_block (w := w) (a := ⟨b, off + (j * 2 + 1), none⟩) e]; exact (hc j hj).2
theorem Prs.block (h : Prs kd w lo a n P Q) (hb : ∀ b, lo ≤ b → b < w.heap.size → w'.heap[b]? = w.heap[b]?) (hs : w.heap.size ≤ w'.heap.size) : Prs kd w' lo a n P Q := by
  intro hn
  obtain ⟨b, off, ha, hlo, hbw, hc⟩ := h hn
  have e := hb b hlo hbw
  refine ⟨b, off, ha, hlo, by omega, fun j hj => ⟨?_, ?_⟩⟩
  · rw [World.cell?_of_block (w := w) (a := ⟨b, off + j * 2, none⟩) e]; exact (hc j hj).1
  · rw [World.cell?_of_block (w := w) (a := ⟨b, off + (j * 2 + 1), none⟩) e]; exact (hc j hj).2
theorem Prs.zero (kd : IntKind) (w : World) (lo : Nat) (a : Option Addr) (P Q : Nat → Int) : Prs kd w lo a 0 P Q := fun h => absurd h (Nat.lt_irrefl _)
end

/-- Block N is a row of n pairs, the first k laid. -/
def PRow (kd : IntKind) (w : World) (N : Nat) (t : TypeId) (n k : Nat) (P Q : Nat → Int) : Prop :=
  ∃ F : Nat → Value, w.rowIs N t (n * 2) F ∧ ∀ i, i < k → F (i * 2) = .int .i64 (P i) ∧ F (i * 2 + 1) = .int kd (Q i)

section
variable {kd : IntKind} {w w' : World} {N : Nat} {t : TypeId} {n k : Nat} {P Q : Nat → Int}
theorem PRow.ex (h : PRow kd w N t n k P Q) {i : Nat} (hi : i < n) : ∃ v v', w.cell? ⟨N, i * 2, none⟩ = some v ∧ w.cell? ⟨N, i * 2 + 1, none⟩ = some v' := by
  obtain ⟨F, hr, hF⟩ := h
  exact ⟨_, _, hr.cell (by omega), hr.cell (by omega)⟩
theorem PRow.frozen (h : PRow kd w N t n k P Q) (c : Nat) : w.frozen? ⟨N, c, none⟩ = false := by
  obtain ⟨F, hr, hF⟩ := h
  exact hr.frozen c
theorem PRow.lt (h : PRow kd w N t n k P Q) : N < w.heap.size := by
  obtain ⟨F, hr, hF⟩ := h
  exact hr.lt
theorem PRow.block (h : PRow kd w N t n k P Q) (e : w'.heap[N]? = w.heap[N]?) : PRow kd w' N t n k P Q := by
  obtain ⟨F, hr, hF⟩ := h
  exact ⟨F, hr.of_block e, hF⟩
theorem PRow.drew (h : PRow kd w N t n k P Q) : PRow kd w.drew N t n k P Q := h
theorem PRow.next (h : PRow kd w N t n k P Q) (hk : k < n) : PRow kd ((w.setCell ⟨N, k * 2, none⟩ (.int .i64 (P k))).setCell ⟨N, k * 2 + 1, none⟩ (.int kd (Q k))) N t n (k + 1) P Q := by
  obtain ⟨F, hr, hF⟩ := h
  refine ⟨_, (hr.set _ _).set _ _, fun i hi => ?_⟩
  by_cases e : i = k
  · subst e
    exact ⟨by rw [if_neg (by omega), if_pos rfl], by rw [if_pos rfl]⟩
  · exact ⟨by rw [if_neg (by omega), if_neg (by omega)]; exact (hF i (by omega)).1, by rw [if_neg (by omega), if_neg (by omega)]; exact (hF i (by omega)).2⟩
theorem PRow.made (kd : IntKind) (w : World) (z : Array Value) (t : TypeId) (n : Nat) (P Q : Nat → Int) : PRow kd (w.alloc (.cells (madeCells z (n * 2)) t)) w.heap.size t n 0 P Q :=
  ⟨fun c => z[c % z.size]!, ⟨_, Deep.blk_alloc_new _ _, size_madeCells _ _, fun i hi => by simp [madeCells, hi]⟩, fun i hi => absurd hi (Nat.not_lt_zero _)⟩
theorem PRow.prs (h : PRow kd w N t n n P Q) {lo : Nat} (hl : lo ≤ N) : Prs kd w lo (some ⟨N, 0, none⟩) n P Q := by
  obtain ⟨F, hr, hF⟩ := h
  intro hn
  refine ⟨N, 0, rfl, hl, hr.lt, fun j hj => ⟨?_, ?_⟩⟩
  · rw [Nat.zero_add, hr.cell (by omega), (hF j hj).1]
  · rw [Nat.zero_add, hr.cell (by omega), (hF j hj).2]
end

theorem cr_nil (w : World) : Calls Trym.prog 10 #[.slice none 0 0] w fun x w' => x = .returned (.slice none 0 0) ∧ w = w' := by
  have he := fun w => Lib.run_eql_slice_nil (P := Trym.prog) w 22 63 none 0 0 0 0 Trym.underlying22
  go_enter Trym.func10, Trym.ntmps10
  go_wp2
  go_ret
  exact ⟨rfl, rfl⟩

set_option maxHeartbeats 400000 in
theorem cr_some (x : Addr) (n cap : Nat) (P Q : Nat → Int) (w : World) (hlen : n ≤ 1048576) (hP : Prs .i64 w 0 (some x) n P Q) :
    Calls Trym.prog 10 #[.slice (some x) n cap] w fun e w' => e = .returned (.slice (some ⟨w.heap.size, 0, none⟩) n n) ∧ Below w.heap.size w w' ∧ PRow .i64 w' w.heap.size 63 n n P Q := by
  have he := fun w => Lib.run_eql_slice_nil (P := Trym.prog) w 22 63 (some x) n cap 0 0 Trym.underlying22
  have hmk := run_make_k (P := Trym.prog) 22 63 _ 2 16 Trym.underlying22 info63 .i64 .i64 n (by omega) (by omega)
  have HP : Hid (Prs .i64 w 0 (some x) n P Q) := hP
  clear hP
  go_enter Trym.func10, Trym.ntmps10
  go_wp2
  clear he hmk
  go_loopg [4] n (fun g i wr => ∃ k : Nat, k ≤ n ∧ g = n - k ∧ i = .int .i64 k ∧ Below w.heap.size w wr ∧ PRow .i64 wr w.heap.size 63 n k P Q)
  case atStart => exact ⟨0, Nat.zero_le _, rfl, rfl, (Below.refl _ _).alloc (Nat.le_refl _) _, PRow.made _ _ _ _ _ _ _⟩
  case round =>
    obtain ⟨k, hk, rfl, rfl, hbel, hrow⟩ := hrel
    by_cases hlt : k < n
    · obtain ⟨b, off, hx, _, hbw, hc⟩ := HP.out (by omega)
      obtain rfl := Option.some.inj hx
      have g1 : wr.cell? ⟨b, off + k * 2, none⟩ = some (.int .i64 (P k)) := (hbel.cell (p := ⟨b, off + k * 2, none⟩) hbw).trans (hc k hlt).1
      have g2 : wr.cell? ⟨b, off + (k * 2 + 1), none⟩ = some (.int .i64 (Q k)) := (hbel.cell (p := ⟨b, off + (k * 2 + 1), none⟩) hbw).trans (hc k hlt).2
      have g2' : wr.cell? ⟨b, off + k * 2 + 1, none⟩ = some (.int .i64 (Q k)) := g2
      obtain ⟨v, v', g3, g4⟩ := hrow.ex hlt
      have f3 : wr.frozen? ⟨w.heap.size, k * 2, none⟩ = false := hrow.frozen _
      have f4 : wr.frozen? ⟨w.heap.size, k * 2 + 1, none⟩ = false := hrow.frozen _
      clear hc hx
      go_wp2
      go_roundg (n - (k + 1))
      case measure => omega
      case rel => exact ⟨k + 1, by omega, rfl, by go_num, (hbel.setCell (Nat.le_refl _) _).setCell (Nat.le_refl _) _, hrow.next hlt⟩
    · have hkn : k = n := by omega
      subst hkn
      go_wp2
      go_ret
      exact ⟨rfl, hbel, hrow⟩

/-- cloneRequests: a slice of its own, the same pairs; nil of nil. -/
theorem cr_any (a : Option Addr) (n cap : Nat) (P Q : Nat → Int) (w : World) (hlen : n ≤ 1048576) (hnil : a = none → n = 0 ∧ cap = 0) (hP : Prs .i64 w 0 a n P Q) :
    Calls Trym.prog 10 #[.slice a n cap] w fun e w' => ∃ a', e = .returned (.slice a' n n) ∧ (a' = none → n = 0) ∧ Prs .i64 w' w.heap.size a' n P Q ∧ Below w.heap.size w w' := by
  cases a with
  | none =>
    obtain ⟨rfl, rfl⟩ := hnil rfl
    refine (cr_nil w).mono ?_
    rintro e w' ⟨rfl, rfl⟩
    exact ⟨none, rfl, fun _ => rfl, Prs.zero _ _ _ _ _ _, Below.refl _ _⟩
  | some x =>
    refine (cr_some x n cap P Q w hlen hP).mono ?_
    rintro e w' ⟨rfl, hb, hrow⟩
    exact ⟨_, rfl, fun h => (by cases h), hrow.prs (Nat.le_refl _), hb⟩

theorem cc_nil (w : World) : Calls Trym.prog 19 #[.slice none 0 0] w fun x w' => x = .returned (.slice none 0 0) ∧ w = w' := by
  have he := fun w => Lib.run_eql_slice_nil (P := Trym.prog) w 36 70 none 0 0 0 0 Trym.underlying36
  go_enter Trym.func19, Trym.ntmps19
  go_wp2
  go_ret
  exact ⟨rfl, rfl⟩

set_option maxHeartbeats 400000 in
theorem cc_some (x : Addr) (n cap : Nat) (P Q : Nat → Int) (w : World) (hlen : n ≤ 1048576) (hP : Prs .i32 w 0 (some x) n P Q) :
    Calls Trym.prog 19 #[.slice (some x) n cap] w fun e w' => e = .returned (.slice (some ⟨w.heap.size, 0, none⟩) n n) ∧ Below w.heap.size w w' ∧ PRow .i32 w' w.heap.size 70 n n P Q := by
  have he := fun w => Lib.run_eql_slice_nil (P := Trym.prog) w 36 70 (some x) n cap 0 0 Trym.underlying36
  have hmk := run_make_k (P := Trym.prog) 36 70 _ 2 16 Trym.underlying36 info70 .i64 .i64 n (by omega) (by omega)
  have HP : Hid (Prs .i32 w 0 (some x) n P Q) := hP
  clear hP
  go_enter Trym.func19, Trym.ntmps19
  go_wp2
  clear he hmk
  go_loopg [4] n (fun g i wr => ∃ k : Nat, k ≤ n ∧ g = n - k ∧ i = .int .i64 k ∧ Below w.heap.size w wr ∧ PRow .i32 wr w.heap.size 70 n k P Q)
  case atStart => exact ⟨0, Nat.zero_le _, rfl, rfl, (Below.refl _ _).alloc (Nat.le_refl _) _, PRow.made _ _ _ _ _ _ _⟩
  case round =>
    obtain ⟨k, hk, rfl, rfl, hbel, hrow⟩ := hrel
    by_cases hlt : k < n
    · obtain ⟨b, off, hx, _, hbw, hc⟩ := HP.out (by omega)
      obtain rfl := Option.some.inj hx
      have g1 : wr.cell? ⟨b, off + k * 2, none⟩ = some (.int .i64 (P k)) := (hbel.cell (p := ⟨b, off + k * 2, none⟩) hbw).trans (hc k hlt).1
      have g2 : wr.cell? ⟨b, off + (k * 2 + 1), none⟩ = some (.int .i32 (Q k)) := (hbel.cell (p := ⟨b, off + (k * 2 + 1), none⟩) hbw).trans (hc k hlt).2
      have g2' : wr.cell? ⟨b, off + k * 2 + 1, none⟩ = some (.int .i32 (Q k)) := g2
      obtain ⟨v, v', g3, g4⟩ := hrow.ex hlt
      have f3 : wr.frozen? ⟨w.heap.size, k * 2, none⟩ = false := hrow.frozen _
      have f4 : wr.frozen? ⟨w.heap.size, k * 2 + 1, none⟩ = false := hrow.frozen _
      clear hc hx
      go_wp2
      go_roundg (n - (k + 1))
      case measure => omega
      case rel => exact ⟨k + 1, by omega, rfl, by go_num, (hbel.setCell (Nat.le_refl _) _).setCell (Nat.le_refl _) _, hrow.next hlt⟩
    · have hkn : k = n := by omega
      subst hkn
      go_wp2
      go_ret
      exact ⟨rfl, hbel, hrow⟩

/-- cloneCohorts: a slice of its own, the same pairs; nil of nil. -/
theorem cc_any (a : Option Addr) (n cap : Nat) (P Q : Nat → Int) (w : World) (hlen : n ≤ 1048576) (hnil : a = none → n = 0 ∧ cap = 0) (hP : Prs .i32 w 0 a n P Q) :
    Calls Trym.prog 19 #[.slice a n cap] w fun e w' => ∃ a', e = .returned (.slice a' n n) ∧ (a' = none → n = 0) ∧ Prs .i32 w' w.heap.size a' n P Q ∧ Below w.heap.size w w' := by
  cases a with
  | none =>
    obtain ⟨rfl, rfl⟩ := hnil rfl
    refine (cc_nil w).mono ?_
    rintro e w' ⟨rfl, rfl⟩
    exact ⟨none, rfl, fun _ => rfl, Prs.zero _ _ _ _ _ _, Below.refl _ _⟩
  | some x =>
    refine (cc_some x n cap P Q w hlen hP).mono ?_
    rintro e w' ⟨rfl, hb, hrow⟩
    exact ⟨_, rfl, fun h => (by cases h), hrow.prs (Nat.le_refl _), hb⟩

theorem zr_nil (w : World) : Calls Trym.prog 12 #[.slice none 0 0] w fun x w' => x = .returned (.slice none 0 0) ∧ w = w' := by
  have he := fun w => Lib.run_eql_slice_nil (P := Trym.prog) w 22 63 none 0 0 0 0 Trym.underlying22
  go_enter Trym.func12, Trym.ntmps12
  go_wp2
  go_ret
  exact ⟨rfl, rfl⟩

set_option maxHeartbeats 400000 in
theorem zr_some (x : Addr) (n cap : Nat) (P Q : Nat → Int) (w : World) (hlen : n ≤ 1048576) (hP : Prs .i64 w 0 (some x) n P Q) :
    Calls Trym.prog 12 #[.slice (some x) n cap] w fun e w' => e = .returned (.slice (some ⟨w.heap.size, 0, none⟩) n n) ∧ Below w.heap.size w w' ∧ PRow .i64 w' w.heap.size 68 n n P Q := by
  have he := fun w => Lib.run_eql_slice_nil (P := Trym.prog) w 22 63 (some x) n cap 0 0 Trym.underlying22
  have hmk := run_make_k (P := Trym.prog) 25 68 _ 2 16 Trym.underlying25 info68 .i64 .i64 n (by omega) (by omega)
  have HP : Hid (Prs .i64 w 0 (some x) n P Q) := hP
  clear hP
  go_enter Trym.func12, Trym.ntmps12
  go_wp2
  clear he hmk
  go_loopg [4] n (fun g i wr => ∃ k : Nat, k ≤ n ∧ g = n - k ∧ i = .int .i64 k ∧ Below w.heap.size w wr ∧ PRow .i64 wr w.heap.size 68 n k P Q)
  case atStart => exact ⟨0, Nat.zero_le _, rfl, rfl, (Below.refl _ _).alloc (Nat.le_refl _) _, PRow.made _ _ _ _ _ _ _⟩
  case round =>
    obtain ⟨k, hk, rfl, rfl, hbel, hrow⟩ := hrel
    by_cases hlt : k < n
    · obtain ⟨b, off, hx, _, hbw, hc⟩ := HP.out (by omega)
      obtain rfl := Option.some.inj hx
      have g1 : wr.cell? ⟨b, off + k * 2, none⟩ = some (.int .i64 (P k)) := (hbel.cell (p := ⟨b, off + k * 2, none⟩) hbw).trans (hc k hlt).1
      have g2 : wr.cell? ⟨b, off + (k * 2 + 1), none⟩ = some (.int .i64 (Q k)) := (hbel.cell (p := ⟨b, off + (k * 2 + 1), none⟩) hbw).trans (hc k hlt).2
      have g2' : wr.cell? ⟨b, off + k * 2 + 1, none⟩ = some (.int .i64 (Q k)) := g2
      obtain ⟨v, v', g3, g4⟩ := hrow.ex hlt
      have f3 : wr.frozen? ⟨w.heap.size, k * 2, none⟩ = false := hrow.frozen _
      have f4 : wr.frozen? ⟨w.heap.size, k * 2 + 1, none⟩ = false := hrow.frozen _
      clear hc hx
      have i1 : (k : Int) < (n : Int) := by omega
      go_wp2
      go_region
      all_goals go_wp2
      all_goals go_roundg (n - (k + 1))
      case measure => omega
      case rel => exact ⟨k + 1, by omega, rfl, by go_num, ((hbel.setCell (Nat.le_refl _) _).setCell (Nat.le_refl _) _).drew, (hrow.next hlt).drew⟩
    · have hkn : k = n := by omega
      subst hkn
      go_wp2
      go_ret
      exact ⟨rfl, hbel, hrow⟩

/-- zzRequests: a slice of its own, the same pairs; nil of nil. -/
theorem zr_any (a : Option Addr) (n cap : Nat) (P Q : Nat → Int) (w : World) (hlen : n ≤ 1048576) (hnil : a = none → n = 0 ∧ cap = 0) (hP : Prs .i64 w 0 a n P Q) :
    Calls Trym.prog 12 #[.slice a n cap] w fun e w' => ∃ a', e = .returned (.slice a' n n) ∧ (a' = none → n = 0) ∧ Prs .i64 w' w.heap.size a' n P Q ∧ Below w.heap.size w w' := by
  cases a with
  | none =>
    obtain ⟨rfl, rfl⟩ := hnil rfl
    refine (zr_nil w).mono ?_
    rintro e w' ⟨rfl, rfl⟩
    exact ⟨none, rfl, fun _ => rfl, Prs.zero _ _ _ _ _ _, Below.refl _ _⟩
  | some x =>
    refine (zr_some x n cap P Q w hlen hP).mono ?_
    rintro e w' ⟨rfl, hb, hrow⟩
    exact ⟨_, rfl, fun h => (by cases h), hrow.prs (Nat.le_refl _), hb⟩

theorem zc_nil (w : World) : Calls Trym.prog 40 #[.slice none 0 0] w fun x w' => x = .returned (.slice none 0 0) ∧ w = w' := by
  have he := fun w => Lib.run_eql_slice_nil (P := Trym.prog) w 36 70 none 0 0 0 0 Trym.underlying36
  go_enter Trym.func40, Trym.ntmps40
  go_wp2
  go_ret
  exact ⟨rfl, rfl⟩

set_option maxHeartbeats 400000 in
theorem zc_some (x : Addr) (n cap : Nat) (P Q : Nat → Int) (w : World) (hlen : n ≤ 1048576) (hP : Prs .i32 w 0 (some x) n P Q) :
    Calls Trym.prog 40 #[.slice (some x) n cap] w fun e w' => e = .returned (.slice (some ⟨w.heap.size, 0, none⟩) n n) ∧ Below w.heap.size w w' ∧ PRow .i32 w' w.heap.size 77 n n P Q := by
  have he := fun w => Lib.run_eql_slice_nil (P := Trym.prog) w 36 70 (some x) n cap 0 0 Trym.underlying36
  have hmk := run_make_k (P := Trym.prog) 44 77 _ 2 16 Trym.underlying44 info77 .i64 .i64 n (by omega) (by omega)
  have HP : Hid (Prs .i32 w 0 (some x) n P Q) := hP
  clear hP
  go_enter Trym.func40, Trym.ntmps40
  go_wp2
  clear he hmk
  go_loopg [4] n (fun g i wr => ∃ k : Nat, k ≤ n ∧ g = n - k ∧ i = .int .i64 k ∧ Below w.heap.size w wr ∧ PRow .i32 wr w.heap.size 77 n k P Q)
  case atStart => exact ⟨0, Nat.zero_le _, rfl, rfl, (Below.refl _ _).alloc (Nat.le_refl _) _, PRow.made _ _ _ _ _ _ _⟩
  case round =>
    obtain ⟨k, hk, rfl, rfl, hbel, hrow⟩ := hrel
    by_cases hlt : k < n
    · obtain ⟨b, off, hx, _, hbw, hc⟩ := HP.out (by omega)
      obtain rfl := Option.some.inj hx
      have g1 : wr.cell? ⟨b, off + k * 2, none⟩ = some (.int .i64 (P k)) := (hbel.cell (p := ⟨b, off + k * 2, none⟩) hbw).trans (hc k hlt).1
      have g2 : wr.cell? ⟨b, off + (k * 2 + 1), none⟩ = some (.int .i32 (Q k)) := (hbel.cell (p := ⟨b, off + (k * 2 + 1), none⟩) hbw).trans (hc k hlt).2
      have g2' : wr.cell? ⟨b, off + k * 2 + 1, none⟩ = some (.int .i32 (Q k)) := g2
      obtain ⟨v, v', g3, g4⟩ := hrow.ex hlt
      have f3 : wr.frozen? ⟨w.heap.size, k * 2, none⟩ = false := hrow.frozen _
      have f4 : wr.frozen? ⟨w.heap.size, k * 2 + 1, none⟩ = false := hrow.frozen _
      clear hc hx
      have i1 : (k : Int) < (n : Int) := by omega
      go_wp2
      go_region
      all_goals go_wp2
      all_goals go_roundg (n - (k + 1))
      case measure => omega
      case rel => exact ⟨k + 1, by omega, rfl, by go_num, ((hbel.setCell (Nat.le_refl _) _).setCell (Nat.le_refl _) _).drew, (hrow.next hlt).drew⟩
    · have hkn : k = n := by omega
      subst hkn
      go_wp2
      go_ret
      exact ⟨rfl, hbel, hrow⟩

/-- zzCohorts: a slice of its own, the same pairs; nil of nil. -/
theorem zc_any (a : Option Addr) (n cap : Nat) (P Q : Nat → Int) (w : World) (hlen : n ≤ 1048576) (hnil : a = none → n = 0 ∧ cap = 0) (hP : Prs .i32 w 0 a n P Q) :
    Calls Trym.prog 40 #[.slice a n cap] w fun e w' => ∃ a', e = .returned (.slice a' n n) ∧ (a' = none → n = 0) ∧ Prs .i32 w' w.heap.size a' n P Q ∧ Below w.heap.size w w' := by
  cases a with
  | none =>
    obtain ⟨rfl, rfl⟩ := hnil rfl
    refine (zc_nil w).mono ?_
    rintro e w' ⟨rfl, rfl⟩
    exact ⟨none, rfl, fun _ => rfl, Prs.zero _ _ _ _ _ _, Below.refl _ _⟩
  | some x =>
    refine (zc_some x n cap P Q w hlen hP).mono ?_
    rintro e w' ⟨rfl, hb, hrow⟩
    exact ⟨_, rfl, fun h => (by cases h), hrow.prs (Nat.le_refl _), hb⟩

end Go.Proofs.Qxb6601136aMods.Mem
