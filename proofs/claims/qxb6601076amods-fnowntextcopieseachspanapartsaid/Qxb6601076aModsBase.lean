/- Contracts that several laws of this seat share: zzCompareRange, cloneI32. -/
import Derived.Test.Qxb6601076aModsRows
import Derived.WalkKit
import Derived.ProofKit
import Derived.OpenShut
import Derived.Below
import Derived.Deep.LoopGhost
import Derived.Deep.OwnRows
import Derived.BigQuiet
import Derived.WalkSpells
import Derived.WalkSmall
import Derived.Handy
namespace Go.Proofs.Qxb6601076aMods.Base
set_option linter.unusedSimpArgs false
set_option linter.unusedVariables false
open Go.ChangeShapes Go.WideShapes Go.ChangeAt Go.RowKit

theorem info21 : (Trym.prog.info? 21).map (fun i => (i.zero, i.size, i.bytes)) = some (some (.int .i32 0), 1, 4) := by kernel_rfl

/-- What compareRange answers. -/
def cmpR (s e k : Int) : Int := if e ≤ k then -1 else if k < s then 1 else 0

theorem cmp_any (s e k : Int) (w : World) :
    Calls Trym.prog 9 #[.int .i32 s, .int .i32 e, .int .i32 k] w fun x w' => x = .returned (.int .i64 (cmpR s e k)) ∧ w' = w := by
  unfold cmpR
  by_cases c1 : e ≤ k
  · go_enter Trym.func9, Trym.ntmps9
    go_wp2
    go_ret
    simp [c1]
  · by_cases c2 : k < s
    · go_enter Trym.func9, Trym.ntmps9
      go_wp2
      go_ret
      simp [c1, c2]
    · go_enter Trym.func9, Trym.ntmps9
      go_wp2
      go_ret
      simp [c1, c2]

/-- A slice's cells: where there is one, the slice begins at a plain address of a block that is there. -/
def At (w : World) (a : Option Addr) (n : Nat) (f : Nat → Value) : Prop :=
  0 < n → ∃ b off, a = some ⟨b, off, none⟩ ∧ b < w.heap.size ∧ ∀ j, j < n → w.cell? ⟨b, off + j, none⟩ = some (f j)

theorem clone_nil (w : World) : Calls Trym.prog 13 #[.slice none 0 0] w fun x w' => x = .returned (.slice none 0 0) ∧ w' = w := by
  have he := fun w => Lib.run_eql_slice_nil (P := Trym.prog) w 26 21 none 0 0 0 0 Trym.underlying26
  go_enter Trym.func13, Trym.ntmps13
  go_wp2
  go_ret
  exact ⟨rfl, rfl⟩

theorem clone_zero (x : Addr) (cap : Nat) (w : World) : Calls Trym.prog 13 #[.slice (some x) 0 cap] w fun e w' => e = .returned (.slice (some ⟨w.heap.size, 0, none⟩) 0 0) ∧ Below w.heap.size w w' ∧ w'.heap.size = w.heap.size + 1 := by
  have he := fun w => Lib.run_eql_slice_nil (P := Trym.prog) w 26 21 (some x) 0 cap 0 0 Trym.underlying26
  have hmk : ∀ w : World, (Instr.makeSlice 26 (.int .i64 0) (.int .i64 0)).run Trym.prog w = .ok (.slice (some ⟨w.heap.size, 0, none⟩) 0 0) (w.alloc (.cells (madeCells #[.int .i32 0] 0) 21)) := fun w => run_make_row' (P := Trym.prog) 26 21 (.int .i32 0) 4 Trym.underlying26 info21 rfl .i64 .i64 0 (by omega) (by omega) w
  go_enter Trym.func13, Trym.ntmps13
  go_wp2
  go_rounds 1
  go_ret
  exact ⟨rfl, (Below.refl _ _).alloc (Nat.le_refl _) _, by simp⟩

theorem clone_pos (b off len cap : Nat) (z : Nat → Int) (w : World) (hlen : len ≤ 1048576) (hb : b < w.heap.size) (hc : ∀ j, j < len → w.cell? ⟨b, off + j, none⟩ = some (.int .i32 (z j))) :
    Calls Trym.prog 13 #[.slice (some ⟨b, off, none⟩) len cap] w fun e w' => e = .returned (.slice (some ⟨w.heap.size, 0, none⟩) len len) ∧ Below w.heap.size w w' ∧ w'.heap.size = w.heap.size + 1 ∧
      w'.rowIs w.heap.size 21 len (fun j => .int .i32 (z j)) := by
  have he := fun w => Lib.run_eql_slice_nil (P := Trym.prog) w 26 21 (some ⟨b, off, none⟩) len cap 0 0 Trym.underlying26
  have hmk := run_make_row' (P := Trym.prog) 26 21 (.int .i32 0) 4 Trym.underlying26 info21 rfl .i64 .i64 len (by omega) (by omega)
  go_enter Trym.func13, Trym.ntmps13
  go_wp2
  clear he hmk
  go_loopg [4] len (fun g i wr => ∃ k : Nat, k ≤ len ∧ g = len - k ∧ i = .int .i64 k ∧ Below w.heap.size w wr ∧ wr.heap.size = w.heap.size + 1 ∧
     wr.rowIs w.heap.size 21 len (fun j => if j < k then .int .i32 (z j) else .int .i32 0))
  case atStart => exact ⟨0, Nat.zero_le _, rfl, rfl, (Below.refl _ _).alloc (Nat.le_refl _) _, by simp, (World.rowIs_made w _ len 21).congr (fun j _ => by simp)⟩
  case round =>
    obtain ⟨k, hk, rfl, rfl, hbel, hsz, hrow⟩ := hrel
    by_cases hlt : k < len
    · have g1 : wr.cell? ⟨b, off + k, none⟩ = some (.int .i32 (z k)) := (hbel.cell (p := ⟨b, off + k, none⟩) hb).trans (hc k hlt)
      have g2 : wr.cell? ⟨w.heap.size, k, none⟩ = some (.int .i32 0) := by simpa using hrow.cell hlt
      have g3 : wr.frozen? ⟨w.heap.size, k, none⟩ = false := hrow.frozen k
      have Hc := hc
      clear hc
      go_wp2
      go_roundg (len - (k + 1))
      case measure => omega
      case rel => exact ⟨k + 1, by omega, rfl, by go_num, hbel.setCell (Nat.le_refl _) _, by simpa using hsz, (hrow.set k _).congr (fun j _ => by by_cases e : j = k <;> simp [e]; by_cases e2 : j < k <;> simp [e2] <;> omega)⟩
    · go_wp2
      go_ret
      exact ⟨rfl, hbel, hsz, hrow.congr (fun j hj => by rw [if_pos (by omega)])⟩

end Go.Proofs.Qxb6601076aMods.Base
