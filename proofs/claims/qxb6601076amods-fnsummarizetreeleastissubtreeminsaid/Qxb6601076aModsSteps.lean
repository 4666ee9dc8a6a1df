/- Contracts of zzToSteps, zzFromSteps, summarize, zzBack, ZZSummarize. -/
import Derived.Test.Qxb6601076aModsBase
namespace Go.Proofs.Qxb6601076aMods.Steps
open Go.ChangeShapes Go.WideShapes Go.ChangeAt Go.RowKit
open Go.Proofs.Qxb6601076aMods.Base
set_option linter.unusedSimpArgs false
set_option linter.unusedVariables false

theorem bcell {W w1 : World} (hb : Below W.heap.size W w1) : (∀ b o, b < W.heap.size → w1.cell? ⟨b, o, none⟩ = W.cell? ⟨b, o, none⟩) ∧ (∀ b o, b < W.heap.size → w1.frozen? ⟨b, o, none⟩ = W.frozen? ⟨b, o, none⟩) :=
  ⟨fun b o h => hb.cell (p := ⟨b, o, none⟩) h, fun b o h => hb.frozen (p := ⟨b, o, none⟩) h⟩

theorem to_any (s l : Int) (b : Bool) (w : World) :
    Calls Trym.prog 22 #[.agg #[.int .i32 s, .int .i32 l, .bool b]] w fun e w' => e = .returned (.agg #[.int .i32 s, .int .i32 l, .bool b]) ∧ w' = (w.alloc (.cells #[.int .i32 s, .int .i32 l, .bool b] 30)).alloc (.cells #[.int .i32 s, .int .i32 l, .bool b] 48) := by
  go_enter Trym.func22, Trym.ntmps22
  go_wp2
  go_returns
  exact ⟨rfl, rfl⟩

theorem from_any (s l : Int) (b : Bool) (w : World) :
    Calls Trym.prog 24 #[.agg #[.int .i32 s, .int .i32 l, .bool b]] w fun e w' => e = .returned (.agg #[.int .i32 s, .int .i32 l, .bool b]) ∧ w' = (w.alloc (.cells #[.int .i32 s, .int .i32 l, .bool b] 48)).alloc (.cells #[.int .i32 s, .int .i32 l, .bool b] 30) := by
  go_enter Trym.func24, Trym.ntmps24
  go_wp2
  go_returns
  exact ⟨rfl, rfl⟩

/-- What a pointer to a node leads to. -/
def Node (w : World) (B off : Nat) (s l : Int) (b : Bool) : Prop :=
  B < w.heap.size ∧ w.cell? ⟨B, off, none⟩ = some (.int .i32 s) ∧ w.cell? ⟨B, off + 1, none⟩ = some (.int .i32 l) ∧ w.cell? ⟨B, off + 2, none⟩ = some (.bool b)

/-- The lesser of two. -/
def lesser (a b : Int) : Int := if b < a then b else a

theorem sum_nn (s l : Int) (b : Bool) (w : World) :
    Calls Trym.prog 23 #[.agg #[.int .i32 s, .int .i32 l, .bool b], .pointer none, .pointer none] w fun e w' => e = .returned (.agg #[.int .i32 s, .int .i32 s, .bool b]) ∧ w' = ((w.alloc (.cells #[.int .i32 s, .int .i32 s, .bool b] 48)).alloc (.cells #[.int .i32 s, .int .i32 s, .bool b] 48)) := by
  go_enter Trym.func23, Trym.ntmps23
  go_wp2
  go_returns
  exact ⟨rfl, rfl⟩

theorem sum_ln (s l : Int) (b : Bool) (B1 o1 : Nat) (s1 l1 : Int) (b1 : Bool) (w : World) (h1 : Node w B1 o1 s1 l1 b1) :
    Calls Trym.prog 23 #[.agg #[.int .i32 s, .int .i32 l, .bool b], .pointer (some ⟨B1, o1, none⟩), .pointer none] w fun e w' => e = .returned (.agg #[.int .i32 s, .int .i32 (lesser s l1), .bool b]) ∧ w' = ((w.alloc (.cells #[.int .i32 s, .int .i32 (lesser s l1), .bool b] 48)).alloc (.cells #[.int .i32 s, .int .i32 (lesser s l1), .bool b] 48)).drew := by
  obtain ⟨h10, h11, h12, h13⟩ := h1
  go_enter Trym.func23, Trym.ntmps23
  go_wp2
  go_region
  generalize hm : (if l1 < s then l1 else s) = m
  obtain rfl : lesser s l1 = m := hm
  go_wp2
  go_returns
  exact ⟨rfl, rfl⟩

theorem sum_nr (s l : Int) (b : Bool) (B2 o2 : Nat) (s2 l2 : Int) (b2 : Bool) (w : World) (h2 : Node w B2 o2 s2 l2 b2) :
    Calls Trym.prog 23 #[.agg #[.int .i32 s, .int .i32 l, .bool b], .pointer none, .pointer (some ⟨B2, o2, none⟩)] w fun e w' => e = .returned (.agg #[.int .i32 s, .int .i32 (lesser s l2), .bool b]) ∧ w' = ((w.alloc (.cells #[.int .i32 s, .int .i32 (lesser s l2), .bool b] 48)).alloc (.cells #[.int .i32 s, .int .i32 (lesser s l2), .bool b] 48)).drew := by
  obtain ⟨h10, h11, h12, h13⟩ := h2
  go_enter Trym.func23, Trym.ntmps23
  go_wp2
  go_region
  generalize hm : (if l2 < s then l2 else s) = m
  obtain rfl : lesser s l2 = m := hm
  go_wp2
  go_returns
  exact ⟨rfl, rfl⟩

theorem sum_lr (s l : Int) (b : Bool) (B1 o1 : Nat) (s1 l1 : Int) (b1 : Bool) (B2 o2 : Nat) (s2 l2 : Int) (b2 : Bool) (w : World) (h1 : Node w B1 o1 s1 l1 b1) (h2 : Node w B2 o2 s2 l2 b2) :
    Calls Trym.prog 23 #[.agg #[.int .i32 s, .int .i32 l, .bool b], .pointer (some ⟨B1, o1, none⟩), .pointer (some ⟨B2, o2, none⟩)] w fun e w' => e = .returned (.agg #[.int .i32 s, .int .i32 (lesser (lesser s l1) l2), .bool b]) ∧ w' = ((w.alloc (.cells #[.int .i32 s, .int .i32 (lesser (lesser s l1) l2), .bool b] 48)).alloc (.cells #[.int .i32 s, .int .i32 (lesser (lesser s l1) l2), .bool b] 48)).drew.drew := by
  obtain ⟨h10, h11, h12, h13⟩ := h1
  obtain ⟨h20, h21, h22, h23⟩ := h2
  go_enter Trym.func23, Trym.ntmps23
  go_wp2
  go_region
  generalize hm : (if l1 < s then l1 else s) = m
  obtain rfl : lesser s l1 = m := hm
  go_wp2
  go_region
  generalize hm : (if l2 < lesser s l1 then l2 else lesser s l1) = m
  obtain rfl : lesser (lesser s l1) l2 = m := hm
  go_wp2
  go_returns
  exact ⟨rfl, rfl⟩

theorem back_nil (w : World) : Calls Trym.prog 25 #[.pointer none] w fun e w' => e = .returned (.pointer none) ∧ w = w' := by
  go_enter Trym.func25, Trym.ntmps25
  go_wp2
  go_ret
  exact ⟨rfl, rfl⟩

theorem back_some (B1 o1 : Nat) (s l : Int) (b : Bool) (w : World) (h1 : Node w B1 o1 s l b) :
    Calls Trym.prog 25 #[.pointer (some ⟨B1, o1, none⟩)] w fun e w' => e = .returned (.pointer (some ⟨w.heap.size + 2, 0, none⟩)) ∧ w' = ((w.alloc (.cells #[.int .i32 s, .int .i32 l, .bool b] 48)).alloc (.cells #[.int .i32 s, .int .i32 l, .bool b] 30)).alloc (.cells #[.int .i32 s, .int .i32 l, .bool b] 30) := by
  obtain ⟨h10, h11, h12, h13⟩ := h1
  go_enter Trym.func25, Trym.ntmps25
  go_wp2_with (go_at_call 24; refine (from_any _ _ _ _).mono ?_; rintro e w1 ⟨rfl, rfl⟩)
  go_ret
  exact ⟨rfl, rfl⟩

theorem Node.below {w w' : World} {B off : Nat} {s l : Int} {b : Bool} (h : Node w B off s l b) (hb : Below w.heap.size w w') : Node w' B off s l b := by
  obtain ⟨h0, h1, h2, h3⟩ := h
  exact ⟨Nat.lt_of_lt_of_le h0 hb.size, (hb.cell (p := ⟨B, off, none⟩) h0).trans h1, (hb.cell (p := ⟨B, off + 1, none⟩) h0).trans h2, (hb.cell (p := ⟨B, off + 2, none⟩) h0).trans h3⟩

theorem Node.alloc {w : World} {B off : Nat} {s l : Int} {b : Bool} (h : Node w B off s l b) (o : Obj) : Node (w.alloc o) B off s l b :=
  h.below ((Below.refl _ _).alloc (Nat.le_refl _) o)

theorem Node.drew {w : World} {B off : Nat} {s l : Int} {b : Bool} (h : Node w B off s l b) : Node w.drew B off s l b := h

theorem Node.newAt {w : World} {B : Nat} {s l : Int} {b : Bool} {t : TypeId} (hB : B = w.heap.size) : Node (w.alloc (.cells #[.int .i32 s, .int .i32 l, .bool b] t)) B 0 s l b := by
  subst hB
  exact ⟨by simp, by simp, by simp, by simp⟩

/-- ZZSummarize, no child. -/
theorem zz_nn (s l : Int) (b : Bool) (w : World) :
    Calls Trym.prog 14 #[.agg #[.int .i32 s, .int .i32 l, .bool b], .pointer none, .pointer none] w fun e w' =>
      e = .returned (.tuple #[.agg #[.int .i32 s, .int .i32 s, .bool b], .pointer none, .pointer none]) ∧ Below w.heap.size w w' := by
  go_enter Trym.func14, Trym.ntmps14
  go_wp2_with (first | (go_at_call 22; refine (to_any _ _ _ _).mono ?_; rintro e w1 ⟨rfl, rfl⟩) | (go_at_call 23; refine (sum_nn _ _ _ _).mono ?_; rintro e w1 ⟨rfl, rfl⟩) | (go_at_call 24; refine (from_any _ _ _ _).mono ?_; rintro e w1 ⟨rfl, rfl⟩))
  refine (back_nil _).mono ?_
  rintro e w1 ⟨rfl, rfl⟩
  go_wp2_with fail
  refine (back_nil _).mono ?_
  rintro e w1 ⟨rfl, rfl⟩
  go_wp2_with fail
  go_returns
  exact ⟨rfl, by go_grown⟩

set_option maxHeartbeats 800000 in
/-- .. a left child. -/
theorem zz_ln (s l : Int) (b : Bool) (B1 o1 : Nat) (s1 l1 : Int) (b1 : Bool) (w : World) (h1 : Node w B1 o1 s1 l1 b1) :
    Calls Trym.prog 14 #[.agg #[.int .i32 s, .int .i32 l, .bool b], .pointer (some ⟨B1, o1, none⟩), .pointer none] w fun e w' =>
      ∃ B, e = .returned (.tuple #[.agg #[.int .i32 s, .int .i32 (lesser s l1), .bool b], .pointer (some ⟨B, 0, none⟩), .pointer none]) ∧ w.heap.size ≤ B ∧ Node w' B 0 s1 l1 b1 ∧ Below w.heap.size w w' := by
  obtain ⟨h10, h11, h12, h13⟩ := h1
  go_enter Trym.func14, Trym.ntmps14
  go_wp2_with (first | (go_at_call 22; refine (to_any _ _ _ _).mono ?_; rintro e w1 ⟨rfl, rfl⟩))
  refine (sum_ln _ _ _ _ _ s1 l1 b1 _ ?_).mono ?_
  · repeat' (first | (with_reducible refine Node.drew ?_) | ((with_reducible refine Node.newAt ?_); (simp only [World.size_alloc, World.size_drew]; done)) | (with_reducible refine Node.alloc ?_ _))
  rintro e w1 ⟨rfl, rfl⟩
  go_wp2_with (first | (go_at_call 24; refine (from_any _ _ _ _).mono ?_; rintro e w1 ⟨rfl, rfl⟩))
  refine (back_some _ _ s1 l1 b1 _ ?_).mono ?_
  · repeat' (first | (with_reducible refine Node.drew ?_) | ((with_reducible refine Node.newAt ?_); (simp only [World.size_alloc, World.size_drew]; done)) | (with_reducible refine Node.alloc ?_ _))
  rintro e w1 ⟨rfl, rfl⟩
  go_wp2_with fail
  refine (back_nil _).mono ?_
  rintro e w1 ⟨rfl, rfl⟩
  go_wp2_with fail
  go_returns
  refine ⟨_, rfl, ?_, ?_, ?_⟩
  · omega
  · repeat' (first | (with_reducible refine Node.drew ?_) | ((with_reducible refine Node.newAt ?_); (simp only [World.size_alloc, World.size_drew]; done)) | (with_reducible refine Node.alloc ?_ _))
  · go_grown

set_option maxHeartbeats 800000 in
/-- .. a right child. -/
theorem zz_nr (s l : Int) (b : Bool) (B2 o2 : Nat) (s2 l2 : Int) (b2 : Bool) (w : World) (h2 : Node w B2 o2 s2 l2 b2) :
    Calls Trym.prog 14 #[.agg #[.int .i32 s, .int .i32 l, .bool b], .pointer none, .pointer (some ⟨B2, o2, none⟩)] w fun e w' =>
      ∃ B, e = .returned (.tuple #[.agg #[.int .i32 s, .int .i32 (lesser s l2), .bool b], .pointer none, .pointer (some ⟨B, 0, none⟩)]) ∧ w.heap.size ≤ B ∧ Node w' B 0 s2 l2 b2 ∧ Below w.heap.size w w' := by
  obtain ⟨h10, h11, h12, h13⟩ := h2
  go_enter Trym.func14, Trym.ntmps14
  go_wp2_with (first | (go_at_call 22; refine (to_any _ _ _ _).mono ?_; rintro e w1 ⟨rfl, rfl⟩))
  refine (sum_nr _ _ _ _ _ s2 l2 b2 _ ?_).mono ?_
  · repeat' (first | (with_reducible refine Node.drew ?_) | ((with_reducible refine Node.newAt ?_); (simp only [World.size_alloc, World.size_drew]; done)) | (with_reducible refine Node.alloc ?_ _))
  rintro e w1 ⟨rfl, rfl⟩
  go_wp2_with (first | (go_at_call 24; refine (from_any _ _ _ _).mono ?_; rintro e w1 ⟨rfl, rfl⟩))
  refine (back_nil _).mono ?_
  rintro e w1 ⟨rfl, rfl⟩
  go_wp2_with fail
  refine (back_some _ _ s2 l2 b2 _ ?_).mono ?_
  · repeat' (first | (with_reducible refine Node.drew ?_) | ((with_reducible refine Node.newAt ?_); (simp only [World.size_alloc, World.size_drew]; done)) | (with_reducible refine Node.alloc ?_ _))
  rintro e w1 ⟨rfl, rfl⟩
  go_wp2_with fail
  go_returns
  refine ⟨_, rfl, ?_, ?_, ?_⟩
  · omega
  · repeat' (first | (with_reducible refine Node.drew ?_) | ((with_reducible refine Node.newAt ?_); (simp only [World.size_alloc, World.size_drew]; done)) | (with_reducible refine Node.alloc ?_ _))
  · go_grown

set_option maxHeartbeats 800000 in
/-- .. both. -/
theorem zz_lr (s l : Int) (b : Bool) (B1 o1 : Nat) (s1 l1 : Int) (b1 : Bool) (B2 o2 : Nat) (s2 l2 : Int) (b2 : Bool) (w : World) (h1 : Node w B1 o1 s1 l1 b1) (h2 : Node w B2 o2 s2 l2 b2) :
    Calls Trym.prog 14 #[.agg #[.int .i32 s, .int .i32 l, .bool b], .pointer (some ⟨B1, o1, none⟩), .pointer (some ⟨B2, o2, none⟩)] w fun e w' =>
      ∃ B B', e = .returned (.tuple #[.agg #[.int .i32 s, .int .i32 (lesser (lesser s l1) l2), .bool b], .pointer (some ⟨B, 0, none⟩), .pointer (some ⟨B', 0, none⟩)]) ∧ w.heap.size ≤ B ∧ w.heap.size ≤ B' ∧ Node w' B 0 s1 l1 b1 ∧ Node w' B' 0 s2 l2 b2 ∧ Below w.heap.size w w' := by
  obtain ⟨h10, h11, h12, h13⟩ := h1
  obtain ⟨h20, h21, h22, h23⟩ := h2
  have e1 : B2 < w.heap.size + 1 := by omega
  have e2 : B2 < w.heap.size + 1 + 1 := by omega
  have e3 : B2 < w.heap.size + 1 + 1 + 1 := by omega
  have e4 : B2 < w.heap.size + 1 + 1 + 1 + 1 := by omega
  have e5 : B2 < w.heap.size + 1 + 1 + 1 + 1 + 1 := by omega
  go_enter Trym.func14, Trym.ntmps14
  go_wp2_with (first | (go_at_call 22; refine (to_any _ _ _ _).mono ?_; rintro e w1 ⟨rfl, rfl⟩))
  refine (sum_lr _ _ _ _ _ s1 l1 b1 _ _ s2 l2 b2 _ ?_ ?_).mono ?_
  · repeat' (first | (with_reducible refine Node.drew ?_) | ((with_reducible refine Node.newAt ?_); (simp only [World.size_alloc, World.size_drew]; done)) | (with_reducible refine Node.alloc ?_ _))
  · repeat' (first | (with_reducible refine Node.drew ?_) | ((with_reducible refine Node.newAt ?_); (simp only [World.size_alloc, World.size_drew]; done)) | (with_reducible refine Node.alloc ?_ _))
  rintro e w1 ⟨rfl, rfl⟩
  go_wp2_with (first | (go_at_call 24; refine (from_any _ _ _ _).mono ?_; rintro e w1 ⟨rfl, rfl⟩))
  refine (back_some _ _ s1 l1 b1 _ ?_).mono ?_
  · repeat' (first | (with_reducible refine Node.drew ?_) | ((with_reducible refine Node.newAt ?_); (simp only [World.size_alloc, World.size_drew]; done)) | (with_reducible refine Node.alloc ?_ _))
  rintro e w1 ⟨rfl, rfl⟩
  go_wp2_with fail
  refine (back_some _ _ s2 l2 b2 _ ?_).mono ?_
  · repeat' (first | (with_reducible refine Node.drew ?_) | ((with_reducible refine Node.newAt ?_); (simp only [World.size_alloc, World.size_drew]; done)) | (with_reducible refine Node.alloc ?_ _))
  rintro e w1 ⟨rfl, rfl⟩
  go_wp2_with fail
  go_returns
  refine ⟨_, _, rfl, ?_, ?_, ?_, ?_, ?_⟩
  · omega
  · omega
  · repeat' (first | (with_reducible refine Node.drew ?_) | ((with_reducible refine Node.newAt ?_); (simp only [World.size_alloc, World.size_drew]; done)) | (with_reducible refine Node.alloc ?_ _))
  · repeat' (first | (with_reducible refine Node.drew ?_) | ((with_reducible refine Node.newAt ?_); (simp only [World.size_alloc, World.size_drew]; done)) | (with_reducible refine Node.alloc ?_ _))
  · go_grown

end Go.Proofs.Qxb6601076aMods.Steps
