/- The contracts of zzBytes and placeDomain. -/
import Derived.Test.Qxb6601136aModsPods
import Derived.Test.Qxb6601136aModsAskSmall
namespace Go.Proofs.Qxb6601136aMods.Dom
open Go.ChangeShapes Go.WideShapes Go.ChangeAt Go.RowKit
open Go.Proofs.Qxb6601136aMods.Mem Go.Proofs.Qxb6601136aMods.Pool Go.Proofs.Qxb6601136aMods.Pods
set_option linter.unusedSimpArgs false
set_option linter.unusedVariables false

/-- zzBytes of FnPlaceStartsAllPendingThatFit: it answers; where it says yes the lengths are bounded. -/
theorem bytes17 (r s p t : Int) (a : Option Addr) (n c : Nat) (np : Option Addr) (hv : Bool) (pn dl rd jn : Int) (nj : Nat) (PJ QJ : Nat → Int) (w : World) (hn : n ≤ 9223372036854775807) (hnj : hv = true → nj ≤ 9223372036854775807) (h : NodesIn w np hv pn dl rd jn nj PJ QJ) :
    Calls Trym.prog 17 #[.int .i32 r, .int .i32 s, .int .i32 p, .slice a n c, .pointer np, .int .i64 t] w fun e w' => ∃ d : Bool, e = .returned (.bool d) ∧ (d = true → n ≤ 1048576 ∧ (hv = true → nj ≤ 1048576)) ∧ w = w' := by
  by_cases c1 : 1048576 < n
  · go_enter Trym.func17, Trym.ntmps17
    go_wp2
    go_ret
    exact ⟨false, rfl, fun h => (by cases h), rfl⟩
  · cases hv with
    | false =>
      obtain rfl := h.1 rfl
      clear h hnj
      go_enter Trym.func17, Trym.ntmps17
      go_wp2
      go_ret
      exact ⟨true, rfl, fun _ => ⟨by omega, fun h => (by cases h)⟩, rfl⟩
    | true =>
      obtain ⟨B, off, aj, cj, rfl, hp, _, _⟩ := h.2 rfl
      have hnj' := hnj rfl
      obtain ⟨x0, x1, x2, x3, x4, x5⟩ := hp
      clear h hnj x1 x2 x3 x5
      by_cases c2 : 1048576 < nj
      · go_enter Trym.func17, Trym.ntmps17
        go_wp2
        go_ret
        exact ⟨false, rfl, fun h => (by cases h), rfl⟩
      · by_cases c3 : 1048576 < n + nj
        · go_enter Trym.func17, Trym.ntmps17
          go_wp2
          go_ret
          exact ⟨false, rfl, fun h => (by cases h), rfl⟩
        · go_enter Trym.func17, Trym.ntmps17
          go_wp2
          go_ret
          exact ⟨true, rfl, fun _ => ⟨by omega, fun _ => by omega⟩, rfl⟩

/-- zzBytes of FnScaleToKeepsFirstNPodsAndAsksFewestNodes: it answers; where it says yes the lengths are bounded. -/
theorem bytes28 (r s p t x : Int) (a : Option Addr) (n c : Nat) (np : Option Addr) (hv : Bool) (pn dl rd jn : Int) (nj : Nat) (PJ QJ : Nat → Int) (w : World) (hn : n ≤ 9223372036854775807) (hnj : hv = true → nj ≤ 9223372036854775807) (h : NodesIn w np hv pn dl rd jn nj PJ QJ) :
    Calls Trym.prog 28 #[.int .i32 r, .int .i32 s, .int .i32 p, .slice a n c, .pointer np, .int .i64 t, .int .i32 x] w fun e w' => ∃ d : Bool, e = .returned (.bool d) ∧ (d = true → n ≤ 1048576 ∧ (hv = true → nj ≤ 1048576)) ∧ w = w' := by
  by_cases c1 : 1048576 < n
  · go_enter Trym.func28, Trym.ntmps28
    go_wp2
    go_ret
    exact ⟨false, rfl, fun h => (by cases h), rfl⟩
  · cases hv with
    | false =>
      obtain rfl := h.1 rfl
      clear h hnj
      go_enter Trym.func28, Trym.ntmps28
      go_wp2
      go_ret
      exact ⟨true, rfl, fun _ => ⟨by omega, fun h => (by cases h)⟩, rfl⟩
    | true =>
      obtain ⟨B, off, aj, cj, rfl, hp, _, _⟩ := h.2 rfl
      have hnj' := hnj rfl
      obtain ⟨x0, x1, x2, x3, x4, x5⟩ := hp
      clear h hnj x1 x2 x3 x5
      by_cases c2 : 1048576 < nj
      · go_enter Trym.func28, Trym.ntmps28
        go_wp2
        go_ret
        exact ⟨false, rfl, fun h => (by cases h), rfl⟩
      · by_cases c3 : 1048576 < n + nj
        · go_enter Trym.func28, Trym.ntmps28
          go_wp2
          go_ret
          exact ⟨false, rfl, fun h => (by cases h), rfl⟩
        · go_enter Trym.func28, Trym.ntmps28
          go_wp2
          go_ret
          exact ⟨true, rfl, fun _ => ⟨by omega, fun _ => by omega⟩, rfl⟩

/-- What placeDomain says. -/
def DomP (r s p : Int) (hv : Bool) (pn rd : Int) (w : World) (e : Ending) (w' : World) : Prop :=
  ∃ d : Bool, e = .returned (.bool d) ∧ (d = true → 0 ≤ r ∧ 0 ≤ s ∧ 0 ≤ p ∧ r + s + p ≤ 2147483647 ∧ (hv = true → 0 ≤ pn ∧ pn ≤ 2147483647 ∧ 0 ≤ rd ∧ rd ≤ 4294967296 ∧ r + s ≤ rd * pn)) ∧ Below w.heap.size w w'
theorem domp_no {r s p : Int} {hv : Bool} {pn rd : Int} {w : World} {e : Ending} {w' : World} (he : e = .returned (.bool false)) (hb : Below w.heap.size w w') : DomP r s p hv pn rd w e w' := ⟨false, he, fun h => (by cases h), hb⟩
theorem domp_yes {r s p : Int} {hv : Bool} {pn rd : Int} {w : World} {e : Ending} {w' : World} (he : e = .returned (.bool true)) (h : 0 ≤ r ∧ 0 ≤ s ∧ 0 ≤ p ∧ r + s + p ≤ 2147483647 ∧ (hv = true → 0 ≤ pn ∧ pn ≤ 2147483647 ∧ 0 ≤ rd ∧ rd ≤ 4294967296 ∧ r + s ≤ rd * pn)) (hb : Below w.heap.size w w') : DomP r s p hv pn rd w e w' := ⟨true, he, fun _ => h, hb⟩

set_option maxHeartbeats 1000000 in
set_option maxRecDepth 100000 in
/-- placeDomain: it answers; what it says where it says yes. -/
theorem dom_any (r s p : Int) (np : Option Addr) (hv : Bool) (pn dl rd jn : Int) (nj : Nat) (PJ QJ : Nat → Int) (w : World) (hr : -2147483648 ≤ r ∧ r ≤ 2147483647) (hs : -2147483648 ≤ s ∧ s ≤ 2147483647) (hp : -2147483648 ≤ p ∧ p ≤ 2147483647) (h : NodesIn w np hv pn dl rd jn nj PJ QJ) :
    Calls Trym.prog 18 #[.int .i32 r, .int .i32 s, .int .i32 p, .pointer np] w (DomP r s p hv pn rd w) := by
  by_cases c1 : r < 0
  · have d1 : decide (r < 0) = true := by simpa using c1
    go_enter Trym.func18, Trym.ntmps18
    go_wp2
    go_ret
    exact domp_no rfl (Below.refl _ _)
  · have d1 : decide (r < 0) = false := by simpa using c1
    by_cases c2 : s < 0
    · have d2 : decide (s < 0) = true := by simpa using c2
      go_enter Trym.func18, Trym.ntmps18
      go_wp2
      go_ret
      exact domp_no rfl (Below.refl _ _)
    · have d2 : decide (s < 0) = false := by simpa using c2
      by_cases c3 : p < 0
      · have d3 : decide (p < 0) = true := by simpa using c3
        go_enter Trym.func18, Trym.ntmps18
        go_wp2
        go_ret
        exact domp_no rfl (Below.refl _ _)
      · have d3 : decide (p < 0) = false := by simpa using c3
        by_cases c4 : 2147483647 < r + s + p
        · -- too many
          go_enter Trym.func18, Trym.ntmps18
          go_wp2
          go_ret
          exact domp_no rfl (Below.refl _ _)
        · cases hv with
          | false =>
            obtain rfl := h.1 rfl
            clear h
            go_enter Trym.func18, Trym.ntmps18
            go_wp2
            go_ret
            exact domp_yes rfl ⟨by omega, by omega, by omega, by omega, fun h => (by cases h)⟩ (Below.refl _ _)
          | true =>
            obtain ⟨B, off, aj, cj, rfl, hp', _, _⟩ := h.2 rfl
            obtain ⟨x0, x1, x2, x3, x4, x5⟩ := hp'
            clear h x2 x4 x5
            by_cases c5 : pn < 0
            · have d5 : decide (pn < 0) = true := by simpa using c5
              go_enter Trym.func18, Trym.ntmps18
              go_wp2
              go_ret
              exact domp_no rfl (Below.refl _ _)
            · have d5 : decide (pn < 0) = false := by simpa using c5
              by_cases c6 : 2147483647 < pn
              · have d6 : decide (2147483647 < pn) = true := by simpa using c6
                go_enter Trym.func18, Trym.ntmps18
                go_wp2
                go_ret
                exact domp_no rfl (Below.refl _ _)
              · have d6 : decide (2147483647 < pn) = false := by simpa using c6
                by_cases c7 : rd < 0
                · have d7 : decide (rd < 0) = true := by simpa using c7
                  go_enter Trym.func18, Trym.ntmps18
                  go_wp2
                  go_ret
                  exact domp_no rfl (Below.refl _ _)
                · have d7 : decide (rd < 0) = false := by simpa using c7
                  by_cases c8 : 4294967296 < rd
                  · have d8 : decide (4294967296 < rd) = true := by simpa using c8
                    go_enter Trym.func18, Trym.ntmps18
                    go_wp2
                    go_ret
                    exact domp_no rfl (Below.refl _ _)
                  · have d8 : decide (4294967296 < rd) = false := by simpa using c8
                    obtain ⟨hb0, hb1⟩ := Ask.base_bd (pn := pn) (jn := rd) (by omega) (by omega) (by omega) (by omega)
                    obtain ⟨rm, hrm⟩ : ∃ rm, rd * pn = rm := ⟨_, rfl⟩
                    have HRM : Hid (rd * pn = rm) := hrm
                    rw [hrm] at hb0 hb1
                    by_cases c9 : rm < r + s
                    · go_enter Trym.func18, Trym.ntmps18
                      go_wp2
                      go_quiet (fail)
                      go_wp2
                      go_ret
                      exact domp_no rfl (below_drewN (Below.refl _ _) _)
                    · go_enter Trym.func18, Trym.ntmps18
                      go_wp2
                      go_quiet (fail)
                      go_wp2
                      go_ret
                      exact domp_yes rfl ⟨by omega, by omega, by omega, by omega, fun _ => ⟨by omega, by omega, by omega, by omega, by rw [HRM.out]; omega⟩⟩ (below_drewN (Below.refl _ _) _)

end Go.Proofs.Qxb6601136aMods.Dom
