/- THE WALK of FnSummarizeLeastIsMinOfPresent. -/
import Derived.Test.Qxb6601076aModsSteps
namespace Go.Proofs.Qxb6601076aMods.Least
open Go.ChangeShapes Go.WideShapes Go.ChangeAt Go.RowKit
open Go.Proofs.Qxb6601076aMods.Base Go.Proofs.Qxb6601076aMods.Steps
set_option linter.unusedSimpArgs false
set_option linter.unusedVariables false

theorem lesser_le (a b : Int) : lesser a b ≤ a ∧ lesser a b ≤ b ∧ (lesser a b = a ∨ lesser a b = b) := by
  unfold lesser
  split <;> omega

theorem walk_nn (a0 a1 : Int) (a2 : Bool) (a4 a5 : Int) (a6 : Bool) (a8 a9 : Int) (a10 : Bool) (w : World) :
    Calls Trym.prog 6 #[.int .i32 a0, .int .i32 a1, .bool a2, .bool false, .int .i32 a4, .int .i32 a5, .bool a6, .bool false, .int .i32 a8, .int .i32 a9, .bool a10] w fun e w' => e = .returned (.bool true) ∧ Below w.heap.size w w' := by
  go_enter Trym.func6, Trym.ntmps6
  go_wp2_with fail
  refine (zz_nn _ _ _ _).mono ?_
  rintro e w1 ⟨rfl, hb⟩
  have hb' : Below w.heap.size w w1 := (by go_grown : Below w.heap.size w _).trans (hb.mono (by simp))
  clear hb
  go_wp2
  go_ret
  exact ⟨rfl, hb'.alloc hb'.size _⟩

theorem ret_bool {b : Bool} (h : b = true) : Ending.returned (.bool b) = .returned (.bool true) := by rw [h]

set_option maxHeartbeats 800000 in
theorem walk_ln (a0 a1 : Int) (a2 : Bool) (a4 a5 : Int) (a6 : Bool) (a8 a9 : Int) (a10 : Bool) (w : World) :
    Calls Trym.prog 6 #[.int .i32 a0, .int .i32 a1, .bool a2, .bool true, .int .i32 a4, .int .i32 a5, .bool a6, .bool false, .int .i32 a8, .int .i32 a9, .bool a10] w fun e w' => e = .returned (.bool true) ∧ Below w.heap.size w w' := by
  have hl := lesser_le a0 a5
  go_enter Trym.func6, Trym.ntmps6
  go_wp2_with fail
  refine (zz_ln _ _ _ _ _ a4 a5 a6 _ (Node.newAt (by simp))).mono ?_
  rintro e w1 ⟨B, rfl, hB, hn, hb⟩
  have hb' : Below w.heap.size w w1 := (by go_grown : Below w.heap.size w _).trans (hb.mono (by simp; omega))
  clear hb
  generalize lesser a0 a5 = m at *
  obtain ⟨hl1, hl2, hl3⟩ := hl
  have Hl : Hid (m = a0 ∨ m = a5) := hl3
  clear hl3 hB
  obtain ⟨n0, n1, n2, n3⟩ := hn
  simp only [Nat.zero_add] at n2 n3
  go_wp2
  · go_ret
    exact ⟨rfl, hb'.alloc hb'.size _⟩
  · have q : (m == a5) = false := by assumption
    have q2 : (m == a0) = true := by
      rcases Hl.out with e | e
      · simp [e]
      · simp [e] at q
    go_ret
    exact ⟨ret_bool q2, hb'.alloc hb'.size _⟩

set_option maxHeartbeats 800000 in
theorem walk_nr (a0 a1 : Int) (a2 : Bool) (a4 a5 : Int) (a6 : Bool) (a8 a9 : Int) (a10 : Bool) (w : World) :
    Calls Trym.prog 6 #[.int .i32 a0, .int .i32 a1, .bool a2, .bool false, .int .i32 a4, .int .i32 a5, .bool a6, .bool true, .int .i32 a8, .int .i32 a9, .bool a10] w fun e w' => e = .returned (.bool true) ∧ Below w.heap.size w w' := by
  have hl := lesser_le a0 a9
  go_enter Trym.func6, Trym.ntmps6
  go_wp2_with fail
  refine (zz_nr _ _ _ _ _ a8 a9 a10 _ (Node.newAt (by simp))).mono ?_
  rintro e w1 ⟨B, rfl, hB, hn, hb⟩
  have hb' : Below w.heap.size w w1 := (by go_grown : Below w.heap.size w _).trans (hb.mono (by simp; omega))
  clear hb
  generalize lesser a0 a9 = m at *
  obtain ⟨hl1, hl2, hl3⟩ := hl
  have Hl : Hid (m = a0 ∨ m = a9) := hl3
  clear hl3 hB
  obtain ⟨n0, n1, n2, n3⟩ := hn
  simp only [Nat.zero_add] at n2 n3
  go_wp2
  · go_ret
    exact ⟨rfl, hb'.alloc hb'.size _⟩
  · have q : (m == a9) = false := by assumption
    have q2 : (m == a0) = true := by
      rcases Hl.out with e | e
      · simp [e]
      · simp [e] at q
    go_ret
    exact ⟨ret_bool q2, hb'.alloc hb'.size _⟩

set_option maxHeartbeats 800000 in
theorem walk_lr (a0 a1 : Int) (a2 : Bool) (a4 a5 : Int) (a6 : Bool) (a8 a9 : Int) (a10 : Bool) (w : World) :
    Calls Trym.prog 6 #[.int .i32 a0, .int .i32 a1, .bool a2, .bool true, .int .i32 a4, .int .i32 a5, .bool a6, .bool true, .int .i32 a8, .int .i32 a9, .bool a10] w fun e w' => e = .returned (.bool true) ∧ Below w.heap.size w w' := by
  have hl := lesser_le a0 a5
  have hr := lesser_le (lesser a0 a5) a9
  go_enter Trym.func6, Trym.ntmps6
  go_wp2_with fail
  refine (zz_lr _ _ _ _ _ a4 a5 a6 _ _ a8 a9 a10 _ ((Node.newAt (by simp)).alloc _) (Node.newAt (by simp))).mono ?_
  rintro e w1 ⟨B, B', rfl, hB, hB', hn, hn', hb⟩
  have hb' : Below w.heap.size w w1 := (by go_grown : Below w.heap.size w _).trans (hb.mono (by simp; omega))
  clear hb
  have Hl : Hid (lesser (lesser a0 a5) a9 = a0 ∨ lesser (lesser a0 a5) a9 = a5 ∨ lesser (lesser a0 a5) a9 = a9) := show _ ∨ _ ∨ _ by omega
  have k1 : lesser (lesser a0 a5) a9 ≤ a0 := by omega
  have k2 : lesser (lesser a0 a5) a9 ≤ a5 := by omega
  have k3 : lesser (lesser a0 a5) a9 ≤ a9 := by omega
  clear hl hr
  generalize lesser (lesser a0 a5) a9 = m at *
  clear hB hB'
  obtain ⟨n0, n1, n2, n3⟩ := hn
  obtain ⟨n4, n5, n6, n7⟩ := hn'
  simp only [Nat.zero_add] at n2 n3 n6 n7
  go_wp2
  · go_ret
    exact ⟨rfl, hb'.alloc hb'.size _⟩
  · go_ret
    exact ⟨rfl, hb'.alloc hb'.size _⟩
  · go_ret
    exact ⟨rfl, hb'.alloc hb'.size _⟩
  · have q : (m == a5) = false := by assumption
    have q' : (m == a9) = false := by assumption
    have q2 : (m == a0) = true := by
      rcases Hl.out with e | e | e
      · simp [e]
      · simp [e] at q
      · simp [e] at q'
    go_ret
    exact ⟨ret_bool q2, hb'.alloc hb'.size _⟩

end Go.Proofs.Qxb6601076aMods.Least
