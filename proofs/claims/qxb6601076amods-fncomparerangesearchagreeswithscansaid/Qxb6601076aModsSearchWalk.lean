/- THE WALK of FnCompareRangeSearchAgreesWithScan. -/
import Derived.Test.Qxb6601076aModsSearchPlain
namespace Go.Proofs.Qxb6601076aMods.Search
open Go.ChangeShapes Go.WideShapes Go.ChangeAt Go.RowKit
open Go.Proofs.Qxb6601076aMods.Base
set_option linter.unusedSimpArgs false
set_option linter.unusedVariables false

theorem bytes_big (a : Option Addr) (len cap : Nat) (k : Int) (w : World) (h : 1048576 < len) (hm : len ≤ 9223372036854775807) :
    Calls Trym.prog 12 #[.slice a len cap, .int .i32 k] w fun e w' => e = .returned (.bool false) ∧ w = w' := by
  go_enter Trym.func12, Trym.ntmps12
  go_wp2
  go_ret
  exact ⟨rfl, rfl⟩

theorem bytes_ok (a : Option Addr) (len cap : Nat) (k : Int) (w : World) (h : len ≤ 1048576) :
    Calls Trym.prog 12 #[.slice a len cap, .int .i32 k] w fun e w' => e = .returned (.bool true) ∧ w = w' := by
  go_enter Trym.func12, Trym.ntmps12
  go_wp2
  go_ret
  exact ⟨rfl, rfl⟩

theorem walk_big (a : Option Addr) (len cap : Nat) (k : Int) (w : World) (h : 1048576 < len) (hm : len ≤ 9223372036854775807) :
    Calls Trym.prog 5 #[.slice a len cap, .int .i32 k] w fun e w' => e = .returned (.bool true) ∧ w' = w := by
  go_enter Trym.func5, Trym.ntmps5
  go_wp2_with (go_at_call 12; refine (bytes_big _ _ _ _ _ h hm).mono ?_; rintro e w' ⟨rfl, rfl⟩)
  go_ret
  exact ⟨rfl, rfl⟩

theorem walk_mid (a : Option Addr) (len cap : Nat) (k : Int) (w : World) (h : 65536 < len) (hm : len ≤ 1048576) :
    Calls Trym.prog 5 #[.slice a len cap, .int .i32 k] w fun e w' => e = .returned (.bool true) ∧ w' = w := by
  go_enter Trym.func5, Trym.ntmps5
  go_wp2_with (go_at_call 12; refine (bytes_ok _ _ _ _ _ hm).mono ?_; rintro e w' ⟨rfl, rfl⟩)
  go_ret
  exact ⟨rfl, rfl⟩

theorem walk_nil (k : Int) (w : World) :
    Calls Trym.prog 5 #[.slice none 0 0, .int .i32 k] w fun e w' => e = .returned (.bool true) ∧ w' = w := by
  go_enter Trym.func5, Trym.ntmps5
  go_wp2_with (go_at_call 12; refine (bytes_ok _ _ _ _ _ (by omega)).mono ?_; rintro e w' ⟨rfl, rfl⟩)
  refine wp_loop_rounds 1 ?_
  rw [rounds_succ]
  go_wp2_with (go_at_call 13; refine (clone_nil _).mono ?_; rintro e w' ⟨rfl, rfl⟩)
  go_rounds 1
  go_rounds 1
  go_ret
  exact ⟨rfl, rfl⟩

theorem walk_zero (x : Addr) (cap : Nat) (k : Int) (w : World) :
    Calls Trym.prog 5 #[.slice (some x) 0 cap, .int .i32 k] w fun e w' => e = .returned (.bool true) ∧ Below w.heap.size w w' := by
  go_enter Trym.func5, Trym.ntmps5
  go_wp2_with (go_at_call 12; refine (bytes_ok _ _ _ _ _ (by omega)).mono ?_; rintro e w' ⟨rfl, rfl⟩)
  refine wp_loop_rounds 1 ?_
  rw [rounds_succ]
  go_wp2_with (go_at_call 13; refine (clone_zero _ _ _).mono ?_; rintro e w1 ⟨rfl, hbel, hsz⟩)
  go_rounds 1
  go_rounds 1
  go_ret
  exact ⟨rfl, hbel⟩

set_option maxHeartbeats 1000000 in
theorem walk_pos (b off len cap : Nat) (z : Nat → Int) (k : Int) (w : World) (hlen : len ≤ 65536) (hpos : 0 < len) (hb : b < w.heap.size) (hc : ∀ j, j < len → w.cell? ⟨b, off + j, none⟩ = some (.int .i32 (z j))) :
    Calls Trym.prog 5 #[.slice (some ⟨b, off, none⟩) len cap, .int .i32 k] w fun e w' => e = .returned (.bool true) ∧ Below w.heap.size w w' := by
  have Hc : Hid (∀ j, j < len → w.cell? ⟨b, off + j, none⟩ = some (.int .i32 (z j))) := hc
  clear hc
  go_enter Trym.func5, Trym.ntmps5
  go_wp2_with (go_at_call 12; refine (bytes_ok _ _ _ _ _ (by omega)).mono ?_; rintro e w' ⟨rfl, rfl⟩)
  go_loopg [5] len (fun g i wr => ∃ m : Nat, m ≤ len ∧ g = len - m ∧ i = .int .i64 m ∧ Below w.heap.size w wr ∧ wr.heap.size = w.heap.size ∧ Hid (Rises z (m + 1)))
  case atStart => exact ⟨0, Nat.zero_le _, rfl, rfl, Below.refl _ _, rfl, fun j hj => by omega⟩
  case round =>
    obtain ⟨m, hm, rfl, rfl, hbel, hsz, hris⟩ := hrel
    by_cases hlt : m + 1 < len
    · have g1 : wr.cell? ⟨b, off + m, none⟩ = some (.int .i32 (z m)) := (hbel.cell (p := ⟨b, off + m, none⟩) hb).trans (Hc.out m (by omega))
      have g2 : wr.cell? ⟨b, off + (m + 1), none⟩ = some (.int .i32 (z (m + 1))) := (hbel.cell (p := ⟨b, off + (m + 1), none⟩) hb).trans (Hc.out (m + 1) (by omega))
      by_cases hge : z (m + 1) ≤ z m
      · go_wp2
        go_quiet (fail)
        go_wp2
        go_ret
        exact ⟨rfl, below_drewN hbel _⟩
      · go_wp2
        go_quiet (fail)
        go_wp2
        go_roundg (len - (m + 1))
        case measure => omega
        case rel => exact ⟨m + 1, by omega, rfl, by go_num, below_drewN hbel _, hsz, fun j hj => by by_cases e : j = m; (subst e; omega); exact hris j (by omega)⟩
    · have hris : Hid (Rises z len) := fun j hj => hris j (by omega)
      have g0 : Hid (∀ j, j < len → wr.cell? ⟨b, off + j, none⟩ = some (.int .i32 (z j))) := fun j hj => (hbel.cell (p := ⟨b, off + j, none⟩) hb).trans (Hc.out j hj)
      have hsz' : b < wr.heap.size := by omega
      go_wp2_with fail
      refine (clone_pos b off len cap z _ (by omega) hsz' g0).mono ?_
      rintro e w1 ⟨rfl, hbel1, hsz1, hrow⟩
      clear g0 hsz'
      have hbel2 : Below w.heap.size w w1 := hbel.trans (hbel1.mono (by omega))
      have hN : w.heap.size ≤ wr.heap.size := by omega
      clear hbel1 hbel Hc hsz hsz1
      generalize wr.heap.size = N at *
      have Hrow : Hid (w1.rowIs N 21 len (fun j => .int .i32 (z j))) := hrow
      clear hrow
      go_wp2_with fail
      go_loopg [7, 8, 9, 10, 11] (len - 1) (fun g lo hi fo mi ci wq => ∃ l h : Nat, l ≤ h ∧ h ≤ len - 1 ∧ g = h - l ∧ lo = .int .i64 l ∧ hi = .int .i64 h ∧ fo = .int .i64 (-1) ∧ Below w.heap.size w wq ∧ Hid (wq.rowIs N 21 len (fun j => .int .i32 (z j))) ∧ Hid (Between z len k l h))
      case atStart => exact ⟨0, len - 1, by omega, by omega, by omega, rfl, by go_num, rfl, hbel2, Hrow, between_start z len k⟩
      case round =>
        obtain ⟨l, h, hlh, hh, rfl, rfl, rfl, rfl, hbelq, Hrowq, Hbet⟩ := hrel
        clear Hrow hbel2
        by_cases hl2 : l < h
        · have g1 : wr.cell? ⟨N, l + (h - l) / 2, none⟩ = some (.int .i32 (z (l + (h - l) / 2))) := Hrowq.out.cell (by omega)
          have g2 : wr.cell? ⟨N, l + (h - l) / 2 + 1, none⟩ = some (.int .i32 (z (l + (h - l) / 2 + 1))) := Hrowq.out.cell (by omega)
          have hm1 : ((l : Int) + ((h : Int) - l) / 2) < len := by omega
          have hm2 : ((l : Int) + ((h : Int) - l) / 2 + 1) < len := by omega
          by_cases c1 : z (l + (h - l) / 2 + 1) ≤ k
          · have hcm : cmpR (z (l + (h - l) / 2)) (z (l + (h - l) / 2 + 1)) k = -1 := by simp [cmpR, c1]
            go_wp2
            go_quiet ((go_at_call 9; exact Calls.quiet_of_same (cmp_any _ _ _ _)))
            go_wp2
            go_roundg (h - (l + (h - l) / 2 + 1))
            case measure => omega
            case rel => exact ⟨l + (h - l) / 2 + 1, h, by omega, by omega, rfl, by go_num, rfl, rfl, below_drewN hbelq _, Hrowq, between_left hris.out Hbet.out (by omega) c1⟩
          · by_cases c2 : k < z (l + (h - l) / 2)
            · have hcm : cmpR (z (l + (h - l) / 2)) (z (l + (h - l) / 2 + 1)) k = 1 := by simp [cmpR, c1, c2]
              go_wp2
              go_quiet ((go_at_call 9; exact Calls.quiet_of_same (cmp_any _ _ _ _)))
              go_wp2
              go_roundg (l + (h - l) / 2 - l)
              case measure => omega
              case rel => exact ⟨l, l + (h - l) / 2, by omega, by omega, rfl, rfl, by go_num, rfl, below_drewN hbelq _, Hrowq, between_right hris.out Hbet.out (by omega) c2⟩
            · have hcm : cmpR (z (l + (h - l) / 2)) (z (l + (h - l) / 2 + 1)) k = 0 := by simp [cmpR, c1, c2]
              have Hf : Hid (Is z len k ((l : Int) + ((h : Int) - l) / 2)) := .inr ⟨l + (h - l) / 2, by omega, by omega, by omega, by omega⟩
              go_wp2
              go_quiet ((go_at_call 9; exact Calls.quiet_of_same (cmp_any _ _ _ _)))
              rw [hcm]
              clear hcm c1 c2 g1 g2 hm1 hm2
              go_wp2
              go_loopg [12, 13] len (fun g sc ii wq => ∃ i : Nat, i ≤ len ∧ g = len - i ∧ sc = .int .i64 (-1) ∧ ii = .int .i64 i ∧ Below w.heap.size w wq ∧ Hid (wq.rowIs N 21 len (fun j => .int .i32 (z j))) ∧ Hid (∀ j, j < i → ¬ Holds z len k j))
              case atStart => exact ⟨0, Nat.zero_le _, rfl, rfl, rfl, below_drewN hbelq _, Hrowq, fun j hj => absurd hj (Nat.not_lt_zero _)⟩
              case round =>
                obtain ⟨i, hi, rfl, rfl, rfl, hbeli, Hrowi, Hno⟩ := hrel
                clear hbelq Hrowq
                by_cases hi2 : i + 1 < len
                · have q1 : wr.cell? ⟨N, i, none⟩ = some (.int .i32 (z i)) := Hrowi.out.cell (by omega)
                  have q2 : wr.cell? ⟨N, i + 1, none⟩ = some (.int .i32 (z (i + 1))) := Hrowi.out.cell (by omega)
                  by_cases e1 : z i ≤ k
                  · by_cases e2 : k < z (i + 1)
                    · have Hs : Hid (((l : Int) + ((h : Int) - l) / 2) = (i : Int)) := is_one hris.out Hf.out (.inr ⟨i, rfl, hi2, e1, e2⟩)
                      go_wp2
                      all_goals (go_ret; first | exact ⟨rfl, hbeli⟩ | exact ⟨by rw [Hs.out]; simp, hbeli⟩)
                    · go_wp2
                      go_roundg (len - (i + 1))
                      case measure => omega
                      case rel => exact ⟨i + 1, by omega, rfl, rfl, by go_num, hbeli, Hrowi, fun j hj => by by_cases e : j = i; (subst e; exact fun hh => by have := hh.2.2; omega); exact Hno.out j (by omega)⟩
                  · have e3 : decide (z i ≤ k) = false := by simpa using e1
                    go_wp2
                    go_roundg (len - (i + 1))
                    case measure => omega
                    case rel => exact ⟨i + 1, by omega, rfl, rfl, by go_num, hbeli, Hrowi, fun j hj => by by_cases e : j = i; (subst e; exact fun hh => by have := hh.2.1; omega); exact Hno.out j (by omega)⟩
                · have Hs : Hid (((l : Int) + ((h : Int) - l) / 2) = (-1 : Int)) := is_one hris.out Hf.out (.inl ⟨rfl, fun j hj => Hno.out j (by have := hj.1; omega) hj⟩)
                  go_wp2
                  all_goals (go_ret; first | exact ⟨rfl, hbeli⟩ | exact ⟨by rw [Hs.out]; simp, hbeli⟩)
        · have Hf : Hid (Is z len k (-1)) := between_done Hbet.out (by omega)
          go_wp2
          go_loopg [12, 13] len (fun g sc ii wq => ∃ i : Nat, i ≤ len ∧ g = len - i ∧ sc = .int .i64 (-1) ∧ ii = .int .i64 i ∧ Below w.heap.size w wq ∧ Hid (wq.rowIs N 21 len (fun j => .int .i32 (z j))) ∧ Hid (∀ j, j < i → ¬ Holds z len k j))
          case atStart => exact ⟨0, Nat.zero_le _, rfl, rfl, rfl, hbelq, Hrowq, fun j hj => absurd hj (Nat.not_lt_zero _)⟩
          case round =>
            obtain ⟨i, hi, rfl, rfl, rfl, hbeli, Hrowi, Hno⟩ := hrel
            clear hbelq Hrowq
            by_cases hi2 : i + 1 < len
            · have q1 : wr.cell? ⟨N, i, none⟩ = some (.int .i32 (z i)) := Hrowi.out.cell (by omega)
              have q2 : wr.cell? ⟨N, i + 1, none⟩ = some (.int .i32 (z (i + 1))) := Hrowi.out.cell (by omega)
              by_cases e1 : z i ≤ k
              · by_cases e2 : k < z (i + 1)
                · have Hs : Hid ((-1 : Int) = (i : Int)) := is_one hris.out Hf.out (.inr ⟨i, rfl, hi2, e1, e2⟩)
                  go_wp2
                  all_goals (go_ret; first | exact ⟨rfl, hbeli⟩ | exact ⟨by rw [Hs.out]; simp, hbeli⟩)
                · go_wp2
                  go_roundg (len - (i + 1))
                  case measure => omega
                  case rel => exact ⟨i + 1, by omega, rfl, rfl, by go_num, hbeli, Hrowi, fun j hj => by by_cases e : j = i; (subst e; exact fun hh => by have := hh.2.2; omega); exact Hno.out j (by omega)⟩
              · have e3 : decide (z i ≤ k) = false := by simpa using e1
                go_wp2
                go_roundg (len - (i + 1))
                case measure => omega
                case rel => exact ⟨i + 1, by omega, rfl, rfl, by go_num, hbeli, Hrowi, fun j hj => by by_cases e : j = i; (subst e; exact fun hh => by have := hh.2.1; omega); exact Hno.out j (by omega)⟩
            · have Hs : Hid ((-1 : Int) = (-1 : Int)) := is_one hris.out Hf.out (.inl ⟨rfl, fun j hj => Hno.out j (by have := hj.1; omega) hj⟩)
              go_wp2
              all_goals (go_ret; first | exact ⟨rfl, hbeli⟩ | exact ⟨by rw [Hs.out]; simp, hbeli⟩)

end Go.Proofs.Qxb6601076aMods.Search
