/- Pods behind a pointer, their cohorts and their pool; optional pools. -/
import Derived.Test.Qxb6601136aModsGrow
namespace Go.Proofs.Qxb6601136aMods.Pods
open Go.ChangeShapes Go.WideShapes Go.ChangeAt Go.RowKit
open Go.Proofs.Qxb6601136aMods.Mem Go.Proofs.Qxb6601136aMods.Pool Go.Proofs.Qxb6601136aMods.Grow
set_option linter.unusedSimpArgs false
set_option linter.unusedVariables false

/-- A slice of pairs whose block is one of those that 'ok' names. -/
def PrsX (kd : IntKind) (w : World) (ok : Nat → Prop) (a : Option Addr) (n : Nat) (P Q : Nat → Int) : Prop :=
  0 < n → ∃ b off, a = some ⟨b, off, none⟩ ∧ ok b ∧ b < w.heap.size ∧ ∀ j, j < n → w.cell? ⟨b, off + j * 2, none⟩ = some (.int .i64 (P j)) ∧ w.cell? ⟨b, off + (j * 2 + 1), none⟩ = some (.int kd (Q j))

section
variable {kd : IntKind} {w w' : World} {ok ok' : Nat → Prop} {lo : Nat} {a : Option Addr} {n : Nat} {P Q P' Q' : Nat → Int}
theorem PrsX.ofPrs (h : Prs kd w lo a n P Q) (hok : ∀ b, lo ≤ b → b < w.heap.size → ok b) : PrsX kd w ok a n P Q := by
  intro hn
  obtain ⟨b, off, ha, hlo, hbw, hc⟩ := h hn
  exact ⟨b, off, ha, hok b hlo hbw, hbw, hc⟩
theorem PrsX.prs (h : PrsX kd w ok a n P Q) : Prs kd w 0 a n P Q := by
  intro hn
  obtain ⟨b, off, ha, _, hbw, hc⟩ := h hn
  exact ⟨b, off, ha, Nat.zero_le _, hbw, hc⟩
theorem PrsX.kept (h : PrsX kd w ok a n P Q) (hk : ∀ b, ok b → b < w.heap.size → w'.heap[b]? = w.heap[b]?) (hs : w.heap.size ≤ w'.heap.size) : PrsX kd w' ok a n P Q := by
  intro hn
  obtain ⟨b, off, ha, ho, hbw, hc⟩ := h hn
  have e := hk b ho hbw
  refine ⟨b, off, ha, ho, by omega, fun j hj => ⟨?_, ?_⟩⟩
  · rw [World.cell?_of_block (w := w) (a := ⟨b, off + j * 2, none⟩) e]; exact (hc j hj).1
  · rw [World.cell?_of_block (w := w) (a := ⟨b, off + (j * 2 + 1), none⟩) e]; exact (hc j hj).2
theorem PrsX.okTo (h : PrsX kd w ok a n P Q) (hi : ∀ b, ok b → b < w.heap.size → ok' b) : PrsX kd w ok' a n P Q := by
  intro hn
  obtain ⟨b, off, ha, ho, hbw, hc⟩ := h hn
  exact ⟨b, off, ha, hi b ho hbw, hbw, hc⟩
theorem PrsX.congr (h : PrsX kd w ok a n P Q) (e : ∀ j, j < n → P j = P' j ∧ Q j = Q' j) : PrsX kd w ok a n P' Q' := by
  intro hn
  obtain ⟨b, off, ha, ho, hbw, hc⟩ := h hn
  exact ⟨b, off, ha, ho, hbw, fun j hj => by rw [← (e j hj).1, ← (e j hj).2]; exact hc j hj⟩
theorem PrsX.drewN (h : PrsX kd w ok a n P Q) (k : Nat) : PrsX kd (w.drewN k) ok a n P Q := h
end

theorem prs_congr {kd : IntKind} {w : World} {lo : Nat} {a : Option Addr} {n : Nat} {P Q P' Q' : Nat → Int} (h : Prs kd w lo a n P Q) (e : ∀ j, j < n → P j = P' j ∧ Q j = Q' j) : Prs kd w lo a n P' Q' := by
  intro hn
  obtain ⟨b, off, ha, hlo, hbw, hc⟩ := h hn
  exact ⟨b, off, ha, hlo, hbw, fun j hj => by rw [← (e j hj).1, ← (e j hj).2]; exact hc j hj⟩

/-- Pods in a block of their own. -/
def PodsBlk (w : World) (B : Nat) (t : TypeId) (r s p : Int) (a : Option Addr) (n c : Nat) (np : Option Addr) : Prop :=
  w.heap[B]? = some (.cells #[.int .i32 r, .int .i32 s, .int .i32 p, .slice a n c, .pointer np] t (0, 0))

section
variable {w w' : World} {B : Nat} {t : TypeId} {r s p : Int} {a np : Option Addr} {n c : Nat}
theorem PodsBlk.lt (h : PodsBlk w B t r s p a n c np) : B < w.heap.size := by
  obtain ⟨hlt, _⟩ := Array.getElem?_eq_some_iff.1 h
  exact hlt
theorem PodsBlk.cells (h : PodsBlk w B t r s p a n c np) : w.cell? ⟨B, 0, none⟩ = some (.int .i32 r) ∧ w.cell? ⟨B, 1, none⟩ = some (.int .i32 s) ∧ w.cell? ⟨B, 2, none⟩ = some (.int .i32 p) ∧ w.cell? ⟨B, 3, none⟩ = some (.slice a n c) ∧ w.cell? ⟨B, 4, none⟩ = some (.pointer np) := by
  unfold PodsBlk at h
  exact ⟨by simp [World.cell?, h], by simp [World.cell?, h], by simp [World.cell?, h], by simp [World.cell?, h], by simp [World.cell?, h]⟩
theorem PodsBlk.frozen (h : PodsBlk w B t r s p a n c np) (i : Nat) : w.frozen? ⟨B, i, none⟩ = false := by
  unfold PodsBlk at h
  simp [World.frozen?, h]
theorem PodsBlk.block (h : PodsBlk w B t r s p a n c np) (e : w'.heap[B]? = w.heap[B]?) : PodsBlk w' B t r s p a n c np := e.trans h
theorem PodsBlk.below (h : PodsBlk w B t r s p a n c np) (hb : Below w.heap.size w w') : PodsBlk w' B t r s p a n c np := h.block (hb.block B h.lt)
theorem PodsBlk.alloc (h : PodsBlk w B t r s p a n c np) (o : Obj) : PodsBlk (w.alloc o) B t r s p a n c np := h.block (Below.heap_alloc _ _ _ h.lt)
theorem PodsBlk.new (w : World) (t : TypeId) (r s p : Int) (a : Option Addr) (n c : Nat) (np : Option Addr) :
    PodsBlk (w.alloc (.cells #[.int .i32 r, .int .i32 s, .int .i32 p, .slice a n c, .pointer np] t)) w.heap.size t r s p a n c np := Deep.blk_alloc_new _ _
theorem PodsBlk.setReady (h : PodsBlk w B t r s p a n c np) (x : Int) : PodsBlk (w.setCell ⟨B, 0, none⟩ (.int .i32 x)) B t x s p a n c np := by
  unfold PodsBlk at h ⊢
  simp [World.setCell, Array.getElem?_modify, h]
theorem PodsBlk.setStarting (h : PodsBlk w B t r s p a n c np) (x : Int) : PodsBlk (w.setCell ⟨B, 1, none⟩ (.int .i32 x)) B t r x p a n c np := by
  unfold PodsBlk at h ⊢
  simp [World.setCell, Array.getElem?_modify, h]
theorem PodsBlk.setPending (h : PodsBlk w B t r s p a n c np) (x : Int) : PodsBlk (w.setCell ⟨B, 2, none⟩ (.int .i32 x)) B t r s x a n c np := by
  unfold PodsBlk at h ⊢
  simp [World.setCell, Array.getElem?_modify, h]
theorem PodsBlk.setCohorts (h : PodsBlk w B t r s p a n c np) (a' : Option Addr) (n' c' : Nat) : PodsBlk (w.setCell ⟨B, 3, none⟩ (.slice a' n' c')) B t r s p a' n' c' np := by
  unfold PodsBlk at h ⊢
  simp [World.setCell, Array.getElem?_modify, h]
end

/-- An optional pool that came in: nil, or five cells and a list of requests. -/
def NodesIn (w : World) (p : Option Addr) (hv : Bool) (pn dl rd jn : Int) (n : Nat) (P Q : Nat → Int) : Prop :=
  (hv = false → p = none) ∧ (hv = true → ∃ B off a c, p = some ⟨B, off, none⟩ ∧ PoolAt w B off pn dl rd a n c jn ∧ (a = none → n = 0 ∧ c = 0) ∧ Prs .i64 w 0 a n P Q)

theorem NodesIn.below {w w' : World} {p : Option Addr} {hv : Bool} {pn dl rd jn : Int} {n : Nat} {P Q : Nat → Int} (h : NodesIn w p hv pn dl rd jn n P Q) (hb : Below w.heap.size w w') : NodesIn w' p hv pn dl rd jn n P Q := by
  refine ⟨h.1, fun ht => ?_⟩
  obtain ⟨B, off, a, c, hp, hP, hn, hr⟩ := h.2 ht
  exact ⟨B, off, a, c, hp, hP.below hb, hn, hr.below hb⟩

/-- An optional pool in blocks of the call's own, from lo on. -/
def Nodes (w : World) (lo : Nat) (t : TypeId) (p : Option Addr) (hv : Bool) (pn dl rd jn : Int) (n : Nat) (P Q : Nat → Int) : Prop :=
  (hv = false → p = none) ∧ (hv = true → ∃ B a, p = some ⟨B, 0, none⟩ ∧ lo ≤ B ∧ PoolBlk w B t pn dl rd a n n jn ∧ (a = none → n = 0) ∧ PrsX .i64 w (fun b => lo ≤ b ∧ b ≠ B) a n P Q)

section
variable {w w' : World} {lo lo' : Nat} {t : TypeId} {p : Option Addr} {hv : Bool} {pn dl rd jn : Int} {n : Nat} {P Q : Nat → Int}
theorem Nodes.below (h : Nodes w lo t p hv pn dl rd jn n P Q) (hb : Below w.heap.size w w') : Nodes w' lo t p hv pn dl rd jn n P Q := by
  refine ⟨h.1, fun ht => ?_⟩
  obtain ⟨B, a, hp, hl, hP, hn, hr⟩ := h.2 ht
  exact ⟨B, a, hp, hl, hP.below hb, hn, hr.kept (fun b _ hb' => hb.block b hb') hb.size⟩
theorem Nodes.mono (h : Nodes w lo t p hv pn dl rd jn n P Q) (hl' : lo' ≤ lo) : Nodes w lo' t p hv pn dl rd jn n P Q := by
  refine ⟨h.1, fun ht => ?_⟩
  obtain ⟨B, a, hp, hl, hP, hn, hr⟩ := h.2 ht
  exact ⟨B, a, hp, by omega, hP, hn, hr.okTo (fun b hb _ => ⟨by omega, hb.2⟩)⟩
theorem Nodes.toIn (h : Nodes w lo t p hv pn dl rd jn n P Q) : NodesIn w p hv pn dl rd jn n P Q := by
  refine ⟨h.1, fun ht => ?_⟩
  obtain ⟨B, a, hp, hl, hP, hn, hr⟩ := h.2 ht
  exact ⟨B, 0, a, n, hp, hP.at, fun e => ⟨hn e, hn e⟩, hr.prs⟩
end

/-- An optional pool to be read: at the head of a block. -/
def NodesR (w : World) (p : Option Addr) (hv : Bool) (pn dl rd jn : Int) (n : Nat) (P Q : Nat → Int) : Prop :=
  (hv = false → p = none) ∧ (hv = true → ∃ B a c, p = some ⟨B, 0, none⟩ ∧ PoolAt w B 0 pn dl rd a n c jn ∧ (a = none → n = 0 ∧ c = 0) ∧ Prs .i64 w 0 a n P Q)

theorem NodesR.below {w w' : World} {p : Option Addr} {hv : Bool} {pn dl rd jn : Int} {n : Nat} {P Q : Nat → Int} (h : NodesR w p hv pn dl rd jn n P Q) (hb : Below w.heap.size w w') : NodesR w' p hv pn dl rd jn n P Q := by
  refine ⟨h.1, fun ht => ?_⟩
  obtain ⟨B, a, c, hp, hP, hn, hr⟩ := h.2 ht
  exact ⟨B, a, c, hp, hP.below hb, hn, hr.below hb⟩

theorem NodesR.drew {w : World} {p : Option Addr} {hv : Bool} {pn dl rd jn : Int} {n : Nat} {P Q : Nat → Int} (h : NodesR w p hv pn dl rd jn n P Q) : NodesR w.drew p hv pn dl rd jn n P Q := h

theorem Nodes.toR {w : World} {lo : Nat} {t : TypeId} {p : Option Addr} {hv : Bool} {pn dl rd jn : Int} {n : Nat} {P Q : Nat → Int} (h : Nodes w lo t p hv pn dl rd jn n P Q) : NodesR w p hv pn dl rd jn n P Q := by
  refine ⟨h.1, fun ht => ?_⟩
  obtain ⟨B, a, hp, hl, hP, hn, hr⟩ := h.2 ht
  exact ⟨B, a, n, hp, hP.at, fun e => ⟨hn e, hn e⟩, hr.prs⟩

end Go.Proofs.Qxb6601136aMods.Pods
