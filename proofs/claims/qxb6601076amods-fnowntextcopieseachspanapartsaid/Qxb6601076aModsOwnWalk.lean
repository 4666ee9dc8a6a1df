/- THE WALK of FnOwnTextCopiesEachSpanApart. -/
import Derived.Test.Qxb6601076aModsOwnMain
import Derived.Maps.AppendAt
namespace Go.Proofs.Qxb6601076aMods.Own
open Go.ChangeShapes Go.WideShapes Go.ChangeAt Go.RowKit
open Go.Proofs.Qxb6601076aMods.Base
set_option linter.unusedSimpArgs false
set_option linter.unusedVariables false

theorem Grid.mono {w : World} {lo lo' : Nat} {a : Option Addr} {m : Nat} {Ln : Nat → Nat} {Z : Nat → Nat → Int} (h : Grid w lo a m Ln Z) (hl : lo' ≤ lo) : Grid w lo' a m Ln Z := by
  intro hm
  obtain ⟨b, off, A, Cp, ha, hlo, hbw, hc⟩ := h hm
  exact ⟨b, off, A, Cp, ha, Nat.le_trans hl hlo, hbw, fun i hi => ⟨(hc i hi).1, (hc i hi).2.1, (hc i hi).2.2.mono hl⟩⟩

/-- What the law writes into byte j of span i. -/
def val (i j : Nat) : Int := ((i : Int) * 7 + (j : Int) * 13 + 1) % 256

theorem adr_some (G : Nat) (Ln : Nat → Nat) (i : Nat) : adr G Ln i ≠ none := by
  unfold adr
  split <;> simp

theorem Mn.olds {w3 wr : World} {G O B m : Nat} {Ln : Nat → Nat} {F : Nat → Value} (h : Mn w3 wr G O B m Ln F) {i : Nat} (hi : i < m) :
    ∀ b, adr G Ln i = some b → ∀ j u, ((List.range (Ln i)).map (fun j => F (sumL Ln i + j)))[j]? = some u → wr.cell? (b.add j) = some u := by
  intro b hb j u hu
  have hj : j < Ln i := by
    have := (List.getElem?_eq_some_iff.1 hu).1
    simpa using this
  have hs := sumL_le (Ln := Ln) hi
  have ha : adr G Ln i = some ⟨G, sumL Ln i, none⟩ := by simp [adr]; omega
  rw [ha] at hb
  obtain rfl := Option.some.inj hb
  rw [WideShapes.add_plain, h.all.cell (by omega)]
  simpa [hj] using hu

theorem Cells.drewN {w : World} {lo : Nat} {a : Option Addr} {n : Nat} {f : Nat → Value} (h : Cells w lo a n f) (k : Nat) : Cells (w.drewN k) lo a n f := h

set_option maxHeartbeats 2000000 in
set_option maxRecDepth 100000 in
theorem walk_any (a sa : Option Addr) (m cap sl sc : Nat) (Ln : Nat → Nat) (Z : Nat → Nat → Int) (sh : Nat → Bool) (w : World) (hm : m ≤ 9223372036854775807) (hsl : sl ≤ 9223372036854775807)
    (hln : ∀ i, i < m → Ln i ≤ 9223372036854775807) (hna : a = none → m = 0 ∧ cap = 0) (hns : sa = none → sl = 0 ∧ sc = 0) (hz : Grid w 0 a m Ln Z) (hs : Cells w 0 sa sl (boo sh)) :
    Calls Trym.prog 8 #[.slice a m cap, .slice sa sl sc] w fun e w' => e = .returned (.bool true) ∧ Below w.heap.size w w' := by
  have Hz : Hid (Grid w 0 a m Ln Z) := hz
  have Hs : Hid (Cells w 0 sa sl (boo sh)) := hs
  have Hln : Hid (∀ i, i < m → Ln i ≤ 9223372036854775807) := hln
  have Hna : Hid (a = none → m = 0 ∧ cap = 0) := hna
  have Hns : Hid (sa = none → sl = 0 ∧ sc = 0) := hns
  clear hz hs hln hna hns
  go_enter Trym.func8, Trym.ntmps8
  go_wp2_with fail
  refine (bytes_any a sa m cap sl sc Ln Z w hm hsl Hln.out Hz.out).mono ?_
  rintro e w' ⟨r, rfl, hr, rfl⟩
  cases r with
  | false =>
    clear hr
    go_wp2
    go_ret
    exact ⟨rfl, Below.refl _ _⟩
  | true =>
    obtain ⟨b1, b2, b3⟩ := hr rfl
    clear hr hm hsl Hln
    by_cases c1 : 65536 < m
    · have c1' : decide ((65536 : Int) < (m : Int)) = true := by simp; omega
      go_wp2
      go_ret
      exact ⟨rfl, Below.refl _ _⟩
    · have c1' : decide ((65536 : Int) < (m : Int)) = false := by simp; omega
      by_cases c2 : 1048576 < 24 * m + sl
      · go_wp2
        go_ret
        exact ⟨rfl, Below.refl _ _⟩
      · go_wp2
        go_loopg [5, 6] m (fun g t i wr => w = wr ∧ ∃ k : Nat, k ≤ m ∧ g = m - k ∧ i = .int .i64 k ∧ ∃ s : Nat, t = .int .i64 s ∧ s ≤ 1048576)
        case atStart => exact ⟨rfl, 0, Nat.zero_le _, rfl, rfl, 24 * m + sl, by go_num, by omega⟩
        case round =>
          obtain ⟨rfl, k, hk, rfl, rfl, s, rfl, hs⟩ := hrel
          by_cases hlt : k < m
          · obtain ⟨b, off, A, Cp, rfl, _, _, hc⟩ := Hz.out (by omega)
            have g1 := (hc k hlt).1
            have q1 : Ln k ≤ 1048576 := by have := sumL_le (Ln := Ln) hlt; omega
            clear hc
            by_cases c3 : 1048576 < s + Ln k
            · go_wp2
              go_ret
              exact ⟨rfl, Below.refl _ _⟩
            · go_wp2
              go_roundg (m - (k + 1))
              case measure => omega
              case rel => exact ⟨rfl, k + 1, by omega, rfl, by go_num, s + Ln k, by go_num, by omega⟩
          · have hkm : k = m := by omega
            subst hkm
            have HL : Hid (∀ i, i < k → Ln i ≤ 1048576) := fun i hi => by have := sumL_le (Ln := Ln) hi; omega
            go_wp2_with fail
            refine (c2_any a k cap Ln Z _ b1 HL.out Hna.out Hz.out).mono ?_
            rintro e w1 ⟨a1, ca1, rfl, hna1, hg1, hb1⟩
            have Hg1 : Hid (Grid w1 0 a1 k Ln Z) := hg1.mono (Nat.zero_le _)
            have Hna1 : Hid (a1 = none → k = 0 ∧ ca1 = 0) := hna1
            have Hs1 : Hid (Cells w1 0 sa sl (boo sh)) := Hs.out.below hb1
            clear hg1 hna1 Hz Hs Hna
            go_wp2_with fail
            refine (cl_any sa sl sc sh _ b2 Hns.out Hs1.out).mono ?_
            rintro e w2 ⟨sa2, cs2, rfl, hns2, hs2, hb2⟩
            have Hs2 : Hid (Cells w2 0 sa2 sl (boo sh)) := hs2.mono (Nat.zero_le _)
            have Hg2 : Hid (Grid w2 0 a1 k Ln Z) := Hg1.out.below hb2
            have hbel2 : Below w.heap.size w w2 := hb1.trans (hb2.mono hb1.size)
            clear hs2 hns2 Hs1 Hns Hg1 hb1 hb2
            go_wp2_with fail
            refine (c2_any a1 k ca1 Ln Z _ b1 HL.out Hna1.out Hg2.out).mono ?_
            rintro e w3 ⟨a3, ca3, rfl, hna3, hg3, hb3⟩
            have Hg3 : Hid (Grid w3 0 a3 k Ln Z) := hg3.mono (Nat.zero_le _)
            have Hg3' : Hid (Grid w3 0 a1 k Ln Z) := Hg2.out.below hb3
            have Hs3 : Hid (Cells w3 0 sa2 sl (boo sh)) := Hs2.out.below hb3
            have hbel3 : Below w.heap.size w w3 := hbel2.trans (hb3.mono hbel2.size)
            clear hna3 hg3 Hs2 Hg2 Hna1 hbel2 hb3
            go_wp2_with fail
            refine (zz_any a1 sa2 k ca1 sl cs2 Ln Z sh _ b1 b2 b3 Hg3'.out Hs3.out).mono ?_
            rintro e w4 ⟨N, G, O, B, A, Cp, Fl, rfl, hZ2⟩
            obtain ⟨F, hM, hL⟩ := hZ2.mn
            have Hlaid : Hid (Laid k Ln Z F) := hL
            clear hZ2 hL Hs3
            have hne : ((k : Int) != (k : Int)) = false := by simp
            go_wp2
            go_loopg [10] k (fun g i wr => ∃ q : Nat, q ≤ k ∧ g = k - q ∧ i = .int .i64 q ∧ Mn w3 wr G O B k Ln F)
            case atStart => exact ⟨0, Nat.zero_le _, rfl, rfl, hM⟩
            case round =>
              obtain ⟨q, hq, rfl, rfl, hM2⟩ := hrel
              clear hM
              by_cases hlt2 : q < k
              · obtain ⟨b, off, A', Cp', rfl, _, _, hc⟩ := (Hg3.out.below hM2.bel) (by omega)
                obtain ⟨g1, _, g2⟩ := hc q hlt2
                have Hc2 : Hid (Cells wr 0 (A' q) (Ln q) (byt (Z q))) := g2
                have Hc1 : Hid (Cells wr 0 (adr G Ln q) (Ln q) (byt (Z q))) := hM2.cells Hlaid.out hlt2
                have g3 : wr.cell? ⟨O, q, none⟩ = some (.slice (adr G Ln q) (Ln q) (Ln q)) := hM2.out.cell hlt2
                have g4 : wr.cell? ⟨B, q, none⟩ = some (.bool false) := hM2.flg.cell hlt2
                have q1 : Ln q ≤ 1048576 := HL.out q hlt2
                clear hc g2
                go_wp2
                go_quiet ((go_at_call 20; exact Calls.quiet_of (same_any _ _ _ _ _ (Z q) _ q1 (Hc1.out.drewN _) (Hc2.out.drewN _))))
                go_wp2
                go_roundg (k - (q + 1))
                case measure => omega
                case rel => exact ⟨q + 1, by omega, rfl, by go_num, hM2.drewN _⟩
              · clear Hlaid
                go_wp2
                go_loopg [11, 12] k (fun g i _ wr => ∃ q : Nat, ∃ F : Nat → Value, q ≤ k ∧ g = k - q ∧ i = .int .i64 q ∧ Mn w3 wr G O B k Ln F ∧ Hid (Wrote k Ln val q 0 F))
                case atStart => exact ⟨0, F, Nat.zero_le _, rfl, rfl, hM2, Wrote.start _ _ _ _⟩
                case round =>
                  obtain ⟨i, F, hi, rfl, rfl, hM3, hW3⟩ := hrel
                  clear hM2
                  by_cases hlt3 : i < k
                  · have q1 : Ln i ≤ 1048576 := HL.out i hlt3
                    go_wp2
                    go_loopg [12] (Ln i) (fun g jx wr => ∃ j : Nat, ∃ F : Nat → Value, j ≤ Ln i ∧ g = Ln i - j ∧ jx = .int .i64 j ∧ Mn w3 wr G O B k Ln F ∧ Hid (Wrote k Ln val i j F))
                    case atStart => exact ⟨0, F, Nat.zero_le _, rfl, rfl, hM3, hW3⟩
                    case round =>
                      obtain ⟨j, F, hj, rfl, rfl, hM4, hW4⟩ := hrel
                      clear hM3 hW3
                      have g3 : wr.cell? ⟨O, i, none⟩ = some (.slice (adr G Ln i) (Ln i) (Ln i)) := hM4.out.cell hlt3
                      by_cases hlt4 : j < Ln i
                      · have ha : adr G Ln i = some ⟨G, sumL Ln i, none⟩ := by simp [adr]; omega
                        rw [ha] at g3
                        clear ha
                        have hsm := sumL_le (Ln := Ln) hlt3
                        have g4 : wr.cell? ⟨G, sumL Ln i + j, none⟩ = some (F (sumL Ln i + j)) := hM4.all.cell (by omega)
                        have f4 : wr.frozen? ⟨G, sumL Ln i + j, none⟩ = false := hM4.all.frozen _
                        go_wp2
                        go_roundg (Ln i - (j + 1))
                        case measure => omega
                        case rel => exact ⟨j + 1, _, by omega, rfl, by go_num, hM4.set _ _, hW4.out.set hlt3 hlt4⟩
                      · go_wp2
                        go_roundg (k - (i + 1))
                        case measure => omega
                        case rel => exact ⟨i + 1, F, by omega, rfl, by go_num, hM4, hW4.out.next (by omega)⟩
                  · have hik : i = k := by omega
                    subst hik
                    have Hlaid : Hid (Laid i Ln val F) := hW3.out.all
                    clear hW3
                    obtain ⟨i5, hi5, hz0, hz1, hz2⟩ := info_parts info5
                    go_wp2
                    go_loopg [13] i (fun g ix wr => ∃ q : Nat, q ≤ i ∧ g = i - q ∧ ix = .int .i64 q ∧ Mn w3 wr G O B i Ln F)
                    case atStart => exact ⟨0, Nat.zero_le _, rfl, rfl, hM3⟩
                    case round =>
                      obtain ⟨p, hp, rfl, rfl, hM5⟩ := hrel
                      clear hM3
                      by_cases hlt5 : p < i
                      · have g3 : wr.cell? ⟨O, p, none⟩ = some (.slice (adr G Ln p) (Ln p) (Ln p)) := hM5.out.cell hlt5
                        have q1 : Ln p ≤ 1048576 := HL.out p hlt5
                        have Hold : Hid (∀ o, ∀ b, adr G Ln p = some b → ∀ j u, ((List.range (Ln p)).map (fun j => F (sumL Ln p + j)))[j]? = some u → (wr.alloc o).cell? (b.add j) = some u) := fun o => (hM5.alloc o).olds hlt5
                        go_wp2_with (at_builtin; refine wpList_append_grows _ rfl (.tmp 133) (.tmp 140) 40 rfl 5 i5 (.int .u8 0) 1 1 Trym.underlying40 hi5 hz0 hz1 hz2 rfl (by decide) (adr G Ln p) (Ln p) (Ln p) ((List.range (Ln p)).map (fun j => F (sumL Ln p + j))) rfl (fun h => absurd h (adr_some G Ln p)) (by simp) (Hold.out _) ⟨wr.heap.size, 0, none⟩ 1 1 [_] rfl rfl (cell_one_new _ _ _) (by intro u hu; simp at hu; subst hu; rfl) (by omega) (by unfold maxLen; omega) (by omega) ?_; intro v2 w2 hown2 hgrow2)
                        go_roundg (i - (p + 1))
                        case measure => omega
                        case rel => exact ⟨p + 1, by omega, rfl, by go_num, (hM5.alloc _).grown hgrow2⟩
                      · clear hi5 hz0 hz1 hz2
                        go_wp2
                        go_loopg [14, 15] i (fun g ix _ wr => ∃ q : Nat, q ≤ i ∧ g = i - q ∧ ix = .int .i64 q ∧ Mn w3 wr G O B i Ln F)
                        case atStart => exact ⟨0, Nat.zero_le _, rfl, rfl, hM5⟩
                        case round =>
                          obtain ⟨x, hx, rfl, rfl, hM6⟩ := hrel
                          clear hM5
                          by_cases hlt6 : x < i
                          · have q1 : Ln x ≤ 1048576 := HL.out x hlt6
                            go_wp2
                            go_loopg [15] (Ln x) (fun g jx wr => ∃ j : Nat, j ≤ Ln x ∧ g = Ln x - j ∧ jx = .int .i64 j ∧ Mn w3 wr G O B i Ln F)
                            case atStart => exact ⟨0, Nat.zero_le _, rfl, rfl, hM6⟩
                            case round =>
                              obtain ⟨j, hj, rfl, rfl, hM7⟩ := hrel
                              clear hM6
                              have g3 : wr.cell? ⟨O, x, none⟩ = some (.slice (adr G Ln x) (Ln x) (Ln x)) := hM7.out.cell hlt6
                              by_cases hlt7 : j < Ln x
                              · have ha : adr G Ln x = some ⟨G, sumL Ln x, none⟩ := by simp [adr]; omega
                                rw [ha] at g3
                                clear ha
                                have hsm := sumL_le (Ln := Ln) hlt6
                                have g4 : wr.cell? ⟨G, sumL Ln x + j, none⟩ = some (.int .u8 (((x : Int) * 7 + (j : Int) * 13 + 1) % 256)) := by
                                  rw [hM7.all.cell (by omega), Hlaid.out x hlt6 j hlt7]; rfl
                                go_wp2
                                go_roundg (Ln x - (j + 1))
                                case measure => omega
                                case rel => exact ⟨j + 1, by omega, rfl, by go_num, hM7⟩
                              · go_wp2
                                go_roundg (i - (x + 1))
                                case measure => omega
                                case rel => exact ⟨x + 1, by omega, rfl, by go_num, hM7⟩
                          · clear Hlaid
                            go_wp2
                            go_loopg [16] i (fun g ix wr => ∃ q : Nat, q ≤ i ∧ g = i - q ∧ ix = .int .i64 q ∧ Mn w3 wr G O B i Ln F)
                            case atStart => exact ⟨0, Nat.zero_le _, rfl, rfl, hM6⟩
                            case round =>
                              obtain ⟨y, hy, rfl, rfl, hM8⟩ := hrel
                              clear hM6
                              by_cases hlt8 : y < i
                              · obtain ⟨b, off, A', Cp', rfl, _, _, hc⟩ := (Hg3.out.below hM8.bel) (by omega)
                                obtain ⟨g1, _, g2⟩ := hc y hlt8
                                obtain ⟨b', off', A'', Cp'', rfl, _, _, hc'⟩ := (Hg3'.out.below hM8.bel) (by omega)
                                obtain ⟨g3, _, g4⟩ := hc' y hlt8
                                have Hc2 : Hid (Cells wr 0 (A' y) (Ln y) (byt (Z y))) := g2
                                have Hc1 : Hid (Cells wr 0 (A'' y) (Ln y) (byt (Z y))) := g4
                                have q1 : Ln y ≤ 1048576 := HL.out y hlt8
                                clear hc hc' g2 g4
                                go_wp2
                                go_quiet ((go_at_call 20; exact Calls.quiet_of (same_any _ _ _ _ _ (Z y) _ q1 (Hc1.out.drewN _) (Hc2.out.drewN _))))
                                go_wp2
                                go_roundg (i - (y + 1))
                                case measure => omega
                                case rel => exact ⟨y + 1, by omega, rfl, by go_num, hM8.drewN _⟩
                              · go_wp2
                                go_ret
                                exact ⟨rfl, hbel3.trans (hM8.bel.mono hbel3.size)⟩

end Go.Proofs.Qxb6601076aMods.Own
