/- The contracts of sameBytes and of zzBytes_FnOwnTextCopiesEachSpanApart. -/
import Derived.Test.Qxb6601076aModsOwnMem
namespace Go.Proofs.Qxb6601076aMods.Own
open Go.ChangeShapes Go.WideShapes Go.ChangeAt Go.RowKit
open Go.Proofs.Qxb6601076aMods.Base
set_option linter.unusedSimpArgs false
set_option linter.unusedVariables false

theorem same_any (a b : Option Addr) (n ca cb : Nat) (z : Nat → Int) (w : World) (hn : n ≤ 1048576) (ha : Cells w 0 a n (byt z)) (hb : Cells w 0 b n (byt z)) :
    Calls Trym.prog 20 #[.slice a n ca, .slice b n cb] w fun e w' => e = .returned (.bool true) ∧ ∃ q, w' = w.drewN q := by
  have hne : ((n : Int) != (n : Int)) = false := by simp
  by_cases h0 : n = 0
  · subst h0
    go_enter Trym.func20, Trym.ntmps20
    go_wp2
    go_rounds 1
    go_ret
    exact ⟨rfl, 0, rfl⟩
  · obtain ⟨b1, o1, rfl, _, _, hc1⟩ := ha (by omega)
    obtain ⟨b2, o2, rfl, _, _, hc2⟩ := hb (by omega)
    have H1 : Hid (∀ j, j < n → w.cell? ⟨b1, o1 + j, none⟩ = some (.int .u8 (z j))) := hc1
    have H2 : Hid (∀ j, j < n → w.cell? ⟨b2, o2 + j, none⟩ = some (.int .u8 (z j))) := hc2
    clear hc1 hc2 ha hb
    go_enter Trym.func20, Trym.ntmps20
    go_wp2
    go_loopg [5] n (fun g i wr => ∃ k q : Nat, k ≤ n ∧ g = n - k ∧ i = .int .i64 k ∧ wr = w.drewN q)
    case atStart => exact ⟨0, 0, Nat.zero_le _, rfl, rfl, rfl⟩
    case round =>
      obtain ⟨k, q, hk, rfl, rfl, rfl⟩ := hrel
      by_cases hlt : k < n
      · have g1 := H1.out k hlt
        have g2 := H2.out k hlt
        go_wp2
        go_quiet (fail)
        go_wp2
        go_roundg (n - (k + 1))
        case measure => omega
        case rel => exact ⟨k + 1, _, by omega, rfl, by go_num, rfl⟩
      · go_wp2
        go_ret
        exact ⟨rfl, q, rfl⟩

/-- The sum of the first k lengths. -/
def sumL (Ln : Nat → Nat) : Nat → Nat
  | 0 => 0
  | k + 1 => sumL Ln k + Ln k

theorem sumL_mono (Ln : Nat → Nat) : ∀ d k, sumL Ln k ≤ sumL Ln (k + d) := by
  intro d
  induction d with
  | zero => intro k; exact Nat.le_refl _
  | succ d ih => intro k; have := ih k; show _ ≤ sumL Ln (k + d) + Ln (k + d); omega

theorem sumL_le {Ln : Nat → Nat} {i m : Nat} (h : i < m) : sumL Ln i + Ln i ≤ sumL Ln m := by
  have := sumL_mono Ln (m - (i + 1)) (i + 1)
  rw [show i + 1 + (m - (i + 1)) = m from by omega] at this
  exact this

/-- zzBytes: it answers; where it says yes the lengths are bounded. -/
theorem bytes_any (a sa : Option Addr) (m cap sl sc : Nat) (Ln : Nat → Nat) (Z : Nat → Nat → Int) (w : World) (hm : m ≤ 9223372036854775807) (hsl : sl ≤ 9223372036854775807) (hln : ∀ i, i < m → Ln i ≤ 9223372036854775807) (hz : Grid w 0 a m Ln Z) :
    Calls Trym.prog 16 #[.slice a m cap, .slice sa sl sc] w fun e w' => ∃ r : Bool, e = .returned (.bool r) ∧ (r = true → m ≤ 1048576 ∧ sl ≤ 1048576 ∧ sumL Ln m ≤ 1048576) ∧ w = w' := by
  by_cases c1 : 1048576 < m
  · go_enter Trym.func16, Trym.ntmps16
    go_wp2
    go_ret
    exact ⟨false, rfl, fun h => (by cases h), rfl⟩
  · have Hz : Hid (Grid w 0 a m Ln Z) := hz
    have Hln : Hid (∀ i, i < m → Ln i ≤ 9223372036854775807) := hln
    clear hz hln
    go_enter Trym.func16, Trym.ntmps16
    go_wp2
    go_loopg [5, 6] m (fun g t i wr => w = wr ∧ ∃ k : Nat, k ≤ m ∧ g = m - k ∧ i = .int .i64 k ∧ ∃ s : Nat, t = .int .i64 s ∧ s ≤ 1048576 ∧ Hid (s = m + sumL Ln k))
    case atStart => exact ⟨rfl, 0, Nat.zero_le _, rfl, rfl, m, rfl, by omega, rfl⟩
    case round =>
      obtain ⟨rfl, k, hk, rfl, rfl, s, rfl, hs, hsum⟩ := hrel
      by_cases hlt : k < m
      · obtain ⟨b, off, A, Cp, rfl, _, _, hc⟩ := Hz.out (by omega)
        have g1 := (hc k hlt).1
        have q1 := Hln.out k hlt
        clear hc
        by_cases c2 : 1048576 < Ln k
        · go_wp2
          go_ret
          exact ⟨false, rfl, fun h => (by cases h), rfl⟩
        · by_cases c3 : 1048576 < s + Ln k
          · go_wp2
            go_ret
            exact ⟨false, rfl, fun h => (by cases h), rfl⟩
          · go_wp2
            go_roundg (m - (k + 1))
            case measure => omega
            case rel => exact ⟨rfl, k + 1, by omega, rfl, by go_num, s + Ln k, by go_num, by omega, by have := hsum.out; show _ = m + (sumL Ln k + Ln k); omega⟩
      · have hkm : k = m := by omega
        subst hkm
        by_cases c2 : 1048576 < sl
        · go_wp2
          go_ret
          exact ⟨false, rfl, fun h => (by cases h), rfl⟩
        · by_cases c3 : 1048576 < s + sl
          · go_wp2
            go_ret
            exact ⟨false, rfl, fun h => (by cases h), rfl⟩
          · go_wp2
            go_ret
            exact ⟨true, rfl, fun _ => ⟨by omega, by omega, by have := hsum.out; omega⟩, rfl⟩

end Go.Proofs.Qxb6601076aMods.Own
