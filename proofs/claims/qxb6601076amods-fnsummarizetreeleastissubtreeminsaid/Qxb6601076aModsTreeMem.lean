/- The memory of the heap-shaped tree: a row of nodes of three cells each. -/
import Derived.Test.Qxb6601076aModsTreePlain
namespace Go.Proofs.Qxb6601076aMods.Tree
open Go.ChangeShapes Go.WideShapes Go.ChangeAt Go.RowKit
open Go.Proofs.Qxb6601076aMods.Base Go.Proofs.Qxb6601076aMods.Steps
set_option linter.unusedSimpArgs false
set_option linter.unusedVariables false

theorem info30 : (Trym.prog.info? 30).map (fun i => (i.zero, i.size, i.bytes)) = some (some (.agg #[.int .i32 0, .int .i32 0, .bool false]), 3, 12) := by kernel_rfl

/-- 'make' of a row whose elements have several cells. -/
theorem run_make_k {P : Program} (t e : TypeId) (z : Value) (size bytes : Nat) (ht : P.underlying t = some (.slice e)) (hinfo : (P.info? e).map (fun i => (i.zero, i.size, i.bytes)) = some (some z, size, bytes))
    (kl kc : IntKind) (n : Nat) (hbytes : bytes * n ≤ 281474976710656) (h63 : n ≤ 9223372036854775807) (w : World) :
    (Instr.makeSlice t (.int kl (n : Int)) (.int kc (n : Int))).run P w = .ok (.slice (some ⟨w.heap.size, 0, none⟩) n n) (w.alloc (.cells (madeCells z.cells (n * size)) e)) := by
  obtain ⟨i, hi, hzz⟩ := Option.map_eq_some_iff.1 hinfo
  simp only [Prod.mk.injEq] at hzz
  obtain ⟨hz, hs, hb⟩ := hzz
  have hb' : (i.bytes : Int) * (n : Int) ≤ 281474976710656 := by
    rw [hb]
    have h : ((bytes * n : Nat) : Int) ≤ 281474976710656 := by omega
    rwa [Int.natCast_mul] at h
  have hr := run_make (P := P) w t e i z ht hi hz kl kc n n (by omega) (Int.le_refl _) hb' (by omega)
  simp only [Int.toNat_natCast, hs] at hr
  exact hr

/-- Block N is a row of n nodes. -/
def Nodes (w : World) (N n : Nat) (S L : Nat → Int) (B : Nat → Bool) : Prop :=
  ∃ F : Nat → Value, w.rowIs N 30 (n * 3) F ∧ ∀ i, i < n → F (i * 3) = .int .i32 (S i) ∧ F (i * 3 + 1) = .int .i32 (L i) ∧ F (i * 3 + 2) = .bool (B i)

section
variable {w w' : World} {N n : Nat} {S L : Nat → Int} {B : Nat → Bool}

theorem Nodes.cell0 (h : Nodes w N n S L B) {i : Nat} (hi : i < n) : w.cell? ⟨N, i * 3, none⟩ = some (.int .i32 (S i)) := by
  obtain ⟨F, hr, hF⟩ := h
  rw [hr.cell (by omega), (hF i hi).1]
theorem Nodes.cell1 (h : Nodes w N n S L B) {i : Nat} (hi : i < n) : w.cell? ⟨N, i * 3 + 1, none⟩ = some (.int .i32 (L i)) := by
  obtain ⟨F, hr, hF⟩ := h
  rw [hr.cell (by omega), (hF i hi).2.1]
theorem Nodes.cell2 (h : Nodes w N n S L B) {i : Nat} (hi : i < n) : w.cell? ⟨N, i * 3 + 2, none⟩ = some (.bool (B i)) := by
  obtain ⟨F, hr, hF⟩ := h
  rw [hr.cell (by omega), (hF i hi).2.2]
theorem Nodes.frozen (h : Nodes w N n S L B) (k : Nat) : w.frozen? ⟨N, k, none⟩ = false := by
  obtain ⟨F, hr, hF⟩ := h
  exact hr.frozen k
theorem Nodes.lt (h : Nodes w N n S L B) : N < w.heap.size := by
  obtain ⟨F, hr, hF⟩ := h
  exact hr.lt
theorem Nodes.node (h : Nodes w N n S L B) {i : Nat} (hi : i < n) : Steps.Node w N (i * 3) (S i) (L i) (B i) := ⟨h.lt, h.cell0 hi, h.cell1 hi, h.cell2 hi⟩
theorem Nodes.below (h : Nodes w N n S L B) {b : Nat} (hb : Below b w w') (hN : N < b) : Nodes w' N n S L B := by
  obtain ⟨F, hr, hF⟩ := h
  exact ⟨F, hr.of_block (hb.block N hN), hF⟩
theorem Nodes.alloc (h : Nodes w N n S L B) (o : Obj) : Nodes (w.alloc o) N n S L B := by
  obtain ⟨F, hr, hF⟩ := h
  exact ⟨F, hr.alloc o, hF⟩
theorem Nodes.congr (h : Nodes w N n S L B) {S' L' : Nat → Int} {B' : Nat → Bool} (e : ∀ i, i < n → S i = S' i ∧ L i = L' i ∧ B i = B' i) : Nodes w N n S' L' B' := by
  obtain ⟨F, hr, hF⟩ := h
  refine ⟨F, hr, fun i hi => ?_⟩
  obtain ⟨e1, e2, e3⟩ := e i hi
  rw [← e1, ← e2, ← e3]
  exact hF i hi

theorem Nodes.set (h : Nodes w N n S L B) {i : Nat} (hi : i < n) (s l : Int) (b : Bool) :
    Nodes (((w.setCell ⟨N, i * 3, none⟩ (.int .i32 s)).setCell ⟨N, i * 3 + 1, none⟩ (.int .i32 l)).setCell ⟨N, i * 3 + 2, none⟩ (.bool b)) N n
      (fun j => if j = i then s else S j) (fun j => if j = i then l else L j) (fun j => if j = i then b else B j) := by
  obtain ⟨F, hr, hF⟩ := h
  refine ⟨_, ((hr.set _ _).set _ _).set _ _, fun j hj => ?_⟩
  obtain ⟨f0, f1, f2⟩ := hF j hj
  by_cases e : j = i
  · subst e
    simp only [if_true]
    refine ⟨?_, ?_, ?_⟩
    · rw [if_neg (by omega), if_neg (by omega)]
    · rw [if_neg (by omega)]
    · trivial
  · simp only [if_neg e]
    refine ⟨?_, ?_, ?_⟩
    · rw [if_neg (by omega), if_neg (by omega), if_neg (by omega)]; exact f0
    · rw [if_neg (by omega), if_neg (by omega), if_neg (by omega)]; exact f1
    · rw [if_neg (by omega), if_neg (by omega), if_neg (by omega)]; exact f2

theorem Nodes.made (w : World) (n : Nat) : Nodes (w.alloc (.cells (madeCells #[.int .i32 0, .int .i32 0, .bool false] (n * 3)) 30)) w.heap.size n (fun _ => 0) (fun _ => 0) (fun _ => false) := by
  refine ⟨fun c => #[Value.int .i32 0, .int .i32 0, .bool false][c % 3]!, ⟨_, Deep.blk_alloc_new _ _, size_madeCells _ _, fun i hi => by simp [madeCells, hi]⟩, fun i hi => ?_⟩
  simp only [show i * 3 % 3 = 0 from by omega, show (i * 3 + 1) % 3 = 1 from by omega, show (i * 3 + 2) % 3 = 2 from by omega]
  exact ⟨rfl, rfl, rfl⟩
end

/-- What holds of the world in the loops: nothing old has turned; the steps' copy; the nodes. -/
structure St (w wr : World) (N1 N2 n : Nat) (z S L : Nat → Int) (B : Nat → Bool) : Prop where
  bel : Below w.heap.size w wr
  row : wr.rowIs N1 21 n (fun j => .int .i32 (z j))
  nod : Nodes wr N2 n S L B
  n1 : w.heap.size ≤ N1
  n12 : N1 < N2

theorem St.set {w wr : World} {N1 N2 n : Nat} {z S L : Nat → Int} {B : Nat → Bool} (h : St w wr N1 N2 n z S L B) {i : Nat} (hi : i < n) (s l : Int) (b : Bool) :
    St w (((wr.setCell ⟨N2, i * 3, none⟩ (.int .i32 s)).setCell ⟨N2, i * 3 + 1, none⟩ (.int .i32 l)).setCell ⟨N2, i * 3 + 2, none⟩ (.bool b)) N1 N2 n z
      (fun j => if j = i then s else S j) (fun j => if j = i then l else L j) (fun j => if j = i then b else B j) := by
  have h1 := h.n1
  have h2 := h.n12
  exact ⟨((h.bel.setCell (p := ⟨N2, i * 3, none⟩) (by show _ ≤ N2; omega) _).setCell (p := ⟨N2, i * 3 + 1, none⟩) (by show _ ≤ N2; omega) _).setCell (p := ⟨N2, i * 3 + 2, none⟩) (by show _ ≤ N2; omega) _,
    ((h.row.setOther (a := ⟨N2, i * 3, none⟩) (by show N1 ≠ N2; omega) _).setOther (a := ⟨N2, i * 3 + 1, none⟩) (by show N1 ≠ N2; omega) _).setOther (a := ⟨N2, i * 3 + 2, none⟩) (by show N1 ≠ N2; omega) _,
    h.nod.set hi s l b, h1, h2⟩

theorem St.alloc {w wr : World} {N1 N2 n : Nat} {z S L : Nat → Int} {B : Nat → Bool} (h : St w wr N1 N2 n z S L B) (o : Obj) : St w (wr.alloc o) N1 N2 n z S L B :=
  ⟨h.bel.alloc h.bel.size o, h.row.alloc o, h.nod.alloc o, h.n1, h.n12⟩

theorem St.below {w wr w' : World} {N1 N2 n : Nat} {z S L : Nat → Int} {B : Nat → Bool} (h : St w wr N1 N2 n z S L B) (hb : Below wr.heap.size wr w') : St w w' N1 N2 n z S L B :=
  ⟨h.bel.trans (hb.mono h.bel.size), h.row.of_block (hb.block _ h.row.lt), h.nod.below hb h.nod.lt, h.n1, h.n12⟩

theorem St.congr {w wr : World} {N1 N2 n : Nat} {z S L : Nat → Int} {B : Nat → Bool} (h : St w wr N1 N2 n z S L B) {S' L' : Nat → Int} {B' : Nat → Bool} (e : ∀ i, i < n → S i = S' i ∧ L i = L' i ∧ B i = B' i) : St w wr N1 N2 n z S' L' B' :=
  ⟨h.bel, h.row, h.nod.congr e, h.n1, h.n12⟩

theorem St.drewN {w wr : World} {N1 N2 n : Nat} {z S L : Nat → Int} {B : Nat → Bool} (h : St w wr N1 N2 n z S L B) (k : Nat) : St w (wr.drewN k) N1 N2 n z S L B :=
  ⟨below_drewN h.bel k, h.row, h.nod, h.n1, h.n12⟩

/-- Backward: the odd places. -/
def odd (j : Nat) : Bool := ((j : Int) % 2 == 1)

end Go.Proofs.Qxb6601076aMods.Tree
