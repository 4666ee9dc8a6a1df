/- The contract of ZZOwnText. -/
import Derived.Test.Qxb6601076aModsOwnText
namespace Go.Proofs.Qxb6601076aMods.Own
open Go.ChangeShapes Go.WideShapes Go.ChangeAt Go.RowKit
open Go.Proofs.Qxb6601076aMods.Base
set_option linter.unusedSimpArgs false
set_option linter.unusedVariables false

theorem info59 : (Trym.prog.info? 59).map (fun i => (i.zero, i.size, i.bytes)) = some (some (.agg #[.slice none 0 0, .int .u32 0, .int .i32 0, .int .u32 0, .int .i32 0, .int .u32 0, .int .i32 0, .int .i32 0, .int .i32 0, .int .u32 0, .bool false, .bool false, .bool false, .bool false]), 14, 64) := by kernel_rfl

/-- 'make' of a row whose elements have several cells. -/
theorem run_make_k {P : Program} (t e : TypeId) (z : Value) (size bytes : Nat) (ht : P.underlying t = some (.slice e)) (hinfo : (P.info? e).map (fun i => (i.zero, i.size, i.bytes)) = some (some z, size, bytes))
    (kl kc : IntKind) (n : Nat) (hbytes : bytes * n ≤ 281474976710656) (h63 : n ≤ 9223372036854775807) (w : World) :
    (Instr.makeSlice t (.int kl (n : Int)) (.int kc (n : Int))).run P w = .ok (.slice (some ⟨w.heap.size, 0, none⟩) n n) (w.alloc (.cells (madeCells z.cells (n * size)) e)) := by
  obtain ⟨i, hi, hzz⟩ := Option.map_eq_some_iff.1 hinfo
  simp only [Prod.mk.injEq] at hzz
  obtain ⟨hz, hs, hb⟩ := hzz
  have hb' : (i.bytes : Int) * (n : Int) ≤ 281474976710656 := by
    rw [hb]
    have h : ((bytes * n : Nat) : Int) ≤ 281474976710656 := by omega
    rwa [Int.natCast_mul] at h
  have hr := run_make (P := P) w t e i z ht hi hz kl kc n n (by omega) (Int.le_refl _) hb' (by omega)
  simp only [Int.toNat_natCast, hs] at hr
  exact hr

theorem Spans.made (w : World) (m : Nat) (z : Array Value) (h0 : z.size = 14) (hc : z[0]! = .slice none 0 0) (hf : z[13]! = .bool false) :
    Spans (w.alloc (.cells (madeCells z (m * 14)) 59)) w.heap.size m (fun _ => none) (fun _ => 0) (fun _ => 0) (fun _ => false) := by
  refine ⟨fun c => z[c % 14]!, ⟨_, Deep.blk_alloc_new _ _, size_madeCells _ _, fun i hi => by simp [madeCells, hi, h0]⟩, fun i hi => ?_⟩
  simp only [show i * 14 % 14 = 0 from by omega, show (i * 14 + 13) % 14 = 13 from by omega]
  exact ⟨hc, hf⟩

theorem Spans.setL {w : World} {N m : Nat} {A : Nat → Option Addr} {Ln Cp : Nat → Nat} {Fl : Nat → Bool} (h : Spans w N m A Ln Cp Fl) {i : Nat} (hi : i < m) (a : Option Addr) (l c : Nat) :
    Spans (w.setCell ⟨N, i * 14, none⟩ (.slice a l c)) N m (fun j => if j = i then a else A j) (fun j => if j = i then l else Ln j) (fun j => if j = i then c else Cp j) Fl := by
  obtain ⟨F, hr, hF⟩ := h
  refine ⟨_, hr.set _ _, fun j hj => ?_⟩
  obtain ⟨f0, f1⟩ := hF j hj
  by_cases e : j = i
  · subst e
    simp only [if_true]
    exact ⟨trivial, by rw [if_neg (by omega)]; exact f1⟩
  · simp only [if_neg e]
    exact ⟨by rw [if_neg (by omega)]; exact f0, by rw [if_neg (by omega)]; exact f1⟩

theorem Spans.congrL {w : World} {N m : Nat} {A : Nat → Option Addr} {Ln Cp : Nat → Nat} {Fl : Nat → Bool} (h : Spans w N m A Ln Cp Fl) {A' : Nat → Option Addr} {Ln' Cp' : Nat → Nat} (e : ∀ i, i < m → A i = A' i ∧ Ln i = Ln' i ∧ Cp i = Cp' i) : Spans w N m A' Ln' Cp' Fl := by
  obtain ⟨F, hr, hF⟩ := h
  refine ⟨F, hr, fun i hi => ?_⟩
  obtain ⟨e1, e2, e3⟩ := e i hi
  rw [← e1, ← e2, ← e3]
  exact hF i hi

/-- The first loop: k contents are laid into the spans. -/
structure Z1 (w wr : World) (m k : Nat) (A : Nat → Option Addr) (Ln Cp : Nat → Nat) (Fl : Nat → Bool) : Prop where
  bel : Below w.heap.size w wr
  spn : Spans wr w.heap.size m (fun i => if i < k then A i else none) (fun i => if i < k then Ln i else 0) (fun i => if i < k then Cp i else 0) Fl

theorem Z1.step {w wr : World} {m k : Nat} {A : Nat → Option Addr} {Ln Cp : Nat → Nat} {Fl : Nat → Bool} (h : Z1 w wr m k A Ln Cp Fl) (hk : k < m) :
    Z1 w (wr.setCell ⟨w.heap.size, k * 14, none⟩ (.slice (A k) (Ln k) (Cp k))) m (k + 1) A Ln Cp Fl := by
  refine ⟨h.bel.setCell (Nat.le_refl _) _, (h.spn.setL hk _ _ _).congrL (fun i hi => ?_)⟩
  by_cases e : i = k
  · subst e; simp
  · simp only [if_neg e]
    by_cases e2 : i < k
    · simp [e2, show i < k + 1 from by omega]
    · simp [e2, show ¬ i < k + 1 from by omega]

theorem Z1.flag {w wr : World} {m k : Nat} {A : Nat → Option Addr} {Ln Cp : Nat → Nat} {Fl : Nat → Bool} {q : Nat} (h : Z1 w wr m q A Ln Cp Fl) (hk : k < m) (b : Bool) :
    Z1 w (wr.setCell ⟨w.heap.size, k * 14 + 13, none⟩ (.bool b)) m q A Ln Cp (fun j => if j = k then b else Fl j) :=
  ⟨h.bel.setCell (Nat.le_refl _) _, h.spn.setF hk b⟩

theorem Ot.alloc {w0 wr : World} {N G m k : Nat} {A : Nat → Option Addr} {Ln Cp : Nat → Nat} {Fl : Nat → Bool} {Z : Nat → Nat → Int} (h : Ot w0 wr N G m k A Ln Cp Fl Z) (o : Obj) : Ot w0 (wr.alloc o) N G m k A Ln Cp Fl Z :=
  ⟨h.bel.alloc h.bel.size o, h.n0, h.ng, h.own.alloc o, h.spn.block (Below.heap_alloc _ _ _ h.spn.lt)⟩

theorem Ot.setOther {w0 wr : World} {N G m k : Nat} {A : Nat → Option Addr} {Ln Cp : Nat → Nat} {Fl : Nat → Bool} {Z : Nat → Nat → Int} (h : Ot w0 wr N G m k A Ln Cp Fl Z) {p : Addr} (hp : G < p.block) (v : Value) : Ot w0 (wr.setCell p v) N G m k A Ln Cp Fl Z := by
  have h0 := h.n0
  have h1 := h.ng
  exact ⟨h.bel.setCell (by omega) v, h0, h1, ownsRow_setCell_other h.own (by simp [Value.ownBlock]; omega) v, h.spn.block (Below.heap_setCell _ _ _ _ (by omega))⟩

/-- The second loop: k contents and flags are read back. -/
structure Z2 (w wr : World) (N G O B m k : Nat) (A : Nat → Option Addr) (Ln Cp : Nat → Nat) (Fl : Nat → Bool) (Z : Nat → Nat → Int) : Prop where
  ot : Ot w wr N G m m A Ln Cp Fl Z
  out : wr.rowIs O 40 m (fun i => if i < k then .slice (adr G Ln i) (Ln i) (Ln i) else .slice none 0 0)
  flg : wr.rowIs B 4 m (fun _ => .bool false)
  go : G < O
  ob : O < B

theorem Z2.next {w wr : World} {N G O B m k : Nat} {A : Nat → Option Addr} {Ln Cp : Nat → Nat} {Fl : Nat → Bool} {Z : Nat → Nat → Int} (h : Z2 w wr N G O B m k A Ln Cp Fl Z) (hk : k < m) :
    Z2 w ((wr.setCell ⟨O, k, none⟩ (.slice (adr G Ln k) (Ln k) (Ln k))).setCell ⟨B, k, none⟩ (.bool false)) N G O B m (k + 1) A Ln Cp Fl Z := by
  have h1 := h.go
  have h2 := h.ob
  refine ⟨(h.ot.setOther (p := ⟨O, k, none⟩) h1 _).setOther (p := ⟨B, k, none⟩) (by show G < B; omega) _, ((h.out.set k _).setOther (a := ⟨B, k, none⟩) (by show O ≠ B; omega) _).congr (fun i hi => ?_),
    ((h.flg.setOther (a := ⟨O, k, none⟩) (by show B ≠ O; omega) _).set k _).congr (fun i hi => by simp), h1, h2⟩
  by_cases e : i = k
  · subst e; simp
  · simp only [if_neg e]
    by_cases e2 : i < k
    · rw [if_pos e2, if_pos (by omega)]
    · rw [if_neg e2, if_neg (by omega)]

set_option maxHeartbeats 1000000 in
set_option maxRecDepth 100000 in
theorem zz_any (a sa : Option Addr) (m cap sl sc : Nat) (Ln : Nat → Nat) (Z : Nat → Nat → Int) (sh : Nat → Bool) (w : World) (hm : m ≤ 1048576) (hsl : sl ≤ 1048576) (hln : sumL Ln m ≤ 1048576)
    (hz : Grid w 0 a m Ln Z) (hs : Cells w 0 sa sl (boo sh)) :
    Calls Trym.prog 19 #[.slice a m cap, .slice sa sl sc] w fun e w' => ∃ N G O B A Cp Fl, e = .returned (.tuple #[.slice (some ⟨O, 0, none⟩) m m, .slice (some ⟨B, 0, none⟩) m m]) ∧ Z2 w w' N G O B m m A Ln Cp Fl Z := by
  obtain ⟨A, Cp, hTop, hA⟩ : ∃ A : Nat → Option Addr, ∃ Cp : Nat → Nat, (0 < m → ∃ b off, a = some ⟨b, off, none⟩ ∧ b < w.heap.size ∧ ∀ i, i < m → w.cell? ⟨b, off + i, none⟩ = some (.slice (A i) (Ln i) (Cp i))) ∧
      ∀ i, i < m → (A i = none → Ln i = 0 ∧ Cp i = 0) ∧ Cells w 0 (A i) (Ln i) (byt (Z i)) := by
    by_cases h0 : 0 < m
    · obtain ⟨b, off, A, Cp, ha, _, hb, hc⟩ := hz h0
      exact ⟨A, Cp, fun _ => ⟨b, off, ha, hb, fun i hi => (hc i hi).1⟩, fun i hi => (hc i hi).2⟩
    · exact ⟨fun _ => none, fun _ => 0, fun h => absurd h h0, fun i hi => by omega⟩
  have HTop : Hid (0 < m → ∃ b off, a = some ⟨b, off, none⟩ ∧ b < w.heap.size ∧ ∀ i, i < m → w.cell? ⟨b, off + i, none⟩ = some (.slice (A i) (Ln i) (Cp i))) := hTop
  have HA : Hid (∀ i, i < m → (A i = none → Ln i = 0 ∧ Cp i = 0) ∧ Cells w 0 (A i) (Ln i) (byt (Z i))) := hA
  have HS : Hid (Cells w 0 sa sl (boo sh)) := hs
  clear hTop hA hz hs
  have hmk := run_make_k (P := Trym.prog) 54 59 _ 14 64 Trym.underlying54 info59 .i64 .i64 m (by omega) (by omega)
  go_enter Trym.func19, Trym.ntmps19
  go_wp2
  clear hmk
  go_loopg [7, 16] m (fun g _ i wr => ∃ k : Nat, ∃ Fl : Nat → Bool, k ≤ m ∧ g = m - k ∧ i = .int .i64 k ∧ Z1 w wr m k A Ln Cp Fl)
  case atStart => exact ⟨0, _, Nat.zero_le _, rfl, rfl, (Below.refl _ _).alloc (Nat.le_refl _) _, (Spans.made w m _ rfl rfl rfl).congrL (fun i hi => by simp)⟩
  case round =>
    obtain ⟨k, Fl, hk, rfl, rfl, hZ⟩ := hrel
    by_cases hlt : k < m
    · obtain ⟨b, off, rfl, hb, hc⟩ := HTop.out (by omega)
      have g1 : wr.cell? ⟨b, off + k, none⟩ = some (.slice (A k) (Ln k) (Cp k)) := (hZ.bel.cell (p := ⟨b, off + k, none⟩) hb).trans (hc k hlt)
      have g2 : wr.cell? ⟨w.heap.size, k * 14, none⟩ = some (.slice none 0 0) := by have := hZ.spn.cellC hlt; simpa using this
      have g3 : wr.cell? ⟨w.heap.size, k * 14 + 13, none⟩ = some (.bool (Fl k)) := hZ.spn.cellF hlt
      have f2 : wr.frozen? ⟨w.heap.size, k * 14, none⟩ = false := hZ.spn.frozen _
      have f3 : wr.frozen? ⟨w.heap.size, k * 14 + 13, none⟩ = false := hZ.spn.frozen _
      clear hc
      by_cases hsk : k < sl
      · obtain ⟨b2, off2, rfl, _, hb2, hc2⟩ := HS.out (by omega)
        have g4 : wr.cell? ⟨b2, off2 + k, none⟩ = some (.bool (sh k)) := (hZ.bel.cell (p := ⟨b2, off2 + k, none⟩) hb2).trans (hc2 k hsk)
        have g5 : (wr.setCell ⟨w.heap.size, k * 14, none⟩ (.slice (A k) (Ln k) (Cp k))).cell? ⟨b2, off2 + k, none⟩ = some (.bool (sh k)) := ((hZ.bel.setCell (p := ⟨w.heap.size, k * 14, none⟩) (Nat.le_refl _) _).cell (p := ⟨b2, off2 + k, none⟩) hb2).trans (hc2 k hsk)
        clear hc2
        go_wp2
        go_roundg (m - (k + 1))
        case measure => omega
        case rel => exact ⟨k + 1, _, by omega, rfl, by go_num, (hZ.step hlt).flag hlt _⟩
      · go_wp2
        go_roundg (m - (k + 1))
        case measure => omega
        case rel => exact ⟨k + 1, _, by omega, rfl, by go_num, hZ.step hlt⟩
    · have hkm : k = m := by omega
      subst hkm
      have hSp : Hid (Spans wr w.heap.size k A Ln Cp Fl) := hZ.spn.congrL (fun i hi => by simp [hi])
      go_wp2_with fail
      refine (own_any w.heap.size k A Ln Cp Fl Z w _ (by omega) (by omega) hZ.bel (Nat.le_refl _) hSp.out HA.out).mono ?_
      rintro e w2 ⟨rfl, G, hO⟩
      clear hSp hZ HTop HA HS
      have hmk1 := run_make_row' (P := Trym.prog) 37 40 (.slice none 0 0) 24 Trym.underlying37 info40 rfl .i64 .i64 k (by omega) (by omega)
      have hmk2 := run_make_row' (P := Trym.prog) 38 4 (.bool false) 1 Trym.underlying38 info4 rfl .i64 .i64 k (by omega) (by omega)
      have hG : G < w2.heap.size := (hO.own.lt G rfl).2
      have h0 : Hid (Z2 w ((w2.alloc (.cells (madeCells #[.slice none 0 0] k) 40)).alloc (.cells (madeCells #[.bool false] k) 4)) w.heap.size G w2.heap.size (w2.heap.size + 1) k 0 A Ln Cp Fl Z) :=
        ⟨(hO.alloc _).alloc _, ((World.rowIs_made w2 _ k 40).alloc _).congr (fun i hi => by simp), by have := World.rowIs_made (w2.alloc (.cells (madeCells #[.slice none 0 0] k) 40)) (.bool false) k 4; rw [World.size_alloc] at this; exact this, hG, by omega⟩
      clear hO hG
      go_wp2
      clear hmk1 hmk2
      go_loopg [10, 50] k (fun g _ i wr => ∃ q : Nat, q ≤ k ∧ g = k - q ∧ i = .int .i64 q ∧ Z2 w wr w.heap.size G w2.heap.size (w2.heap.size + 1) k q A Ln Cp Fl Z)
      case atStart => exact ⟨0, Nat.zero_le _, rfl, rfl, h0⟩
      case round =>
        obtain ⟨q, hq, rfl, rfl, hZ⟩ := hrel
        clear h0
        by_cases hlt2 : q < k
        · have g1 : wr.cell? ⟨w.heap.size, q * 14, none⟩ = some (.slice (adr G Ln q) (Ln q) (Ln q)) := by have := hZ.ot.spn.cellC hlt2; simpa [hlt2] using this
          have g2 : wr.cell? ⟨w.heap.size, q * 14 + 13, none⟩ = some (.bool false) := by have := hZ.ot.spn.cellF hlt2; simpa [hlt2] using this
          have g3 : wr.cell? ⟨w2.heap.size, q, none⟩ = some (.slice none 0 0) := by have := hZ.out.cell hlt2; simpa using this
          have g4 : wr.cell? ⟨w2.heap.size + 1, q, none⟩ = some (.bool false) := hZ.flg.cell hlt2
          have f3 : wr.frozen? ⟨w2.heap.size, q, none⟩ = false := hZ.out.frozen q
          have f4 : wr.frozen? ⟨w2.heap.size + 1, q, none⟩ = false := hZ.flg.frozen q
          have n1 := hZ.ot.ng
          have n2 := hZ.go
          go_wp2
          go_roundg (k - (q + 1))
          case measure => omega
          case rel => exact ⟨q + 1, by omega, rfl, by go_num, hZ.next hlt2⟩
        · have hqk : q = k := by omega
          subst hqk
          go_wp2
          go_ret2
          exact ⟨_, _, _, _, _, _, _, rfl, hZ⟩

end Go.Proofs.Qxb6601076aMods.Own
