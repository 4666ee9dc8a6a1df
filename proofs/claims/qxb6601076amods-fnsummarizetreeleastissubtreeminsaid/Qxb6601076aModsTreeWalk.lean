/- THE WALK of FnSummarizeTreeLeastIsSubtreeMin. -/
import Derived.Test.Qxb6601076aModsTreeMem
namespace Go.Proofs.Qxb6601076aMods.Tree
open Go.ChangeShapes Go.WideShapes Go.ChangeAt Go.RowKit
open Go.Proofs.Qxb6601076aMods.Base Go.Proofs.Qxb6601076aMods.Steps
set_option linter.unusedSimpArgs false
set_option linter.unusedVariables false

theorem bytes_big (a : Option Addr) (len cap : Nat) (w : World) (h : 1048576 < len) (hm : len ≤ 9223372036854775807) :
    Calls Trym.prog 15 #[.slice a len cap] w fun e w' => e = .returned (.bool false) ∧ w = w' := by
  go_enter Trym.func15, Trym.ntmps15
  go_wp2
  go_ret
  exact ⟨rfl, rfl⟩

theorem bytes_ok (a : Option Addr) (len cap : Nat) (w : World) (h : len ≤ 1048576) :
    Calls Trym.prog 15 #[.slice a len cap] w fun e w' => e = .returned (.bool true) ∧ w = w' := by
  go_enter Trym.func15, Trym.ntmps15
  go_wp2
  go_ret
  exact ⟨rfl, rfl⟩

theorem walk_big (a : Option Addr) (len cap : Nat) (w : World) (h : 1048576 < len) (hm : len ≤ 9223372036854775807) :
    Calls Trym.prog 7 #[.slice a len cap] w fun e w' => e = .returned (.bool true) ∧ w' = w := by
  go_enter Trym.func7, Trym.ntmps7
  go_wp2_with (go_at_call 15; refine (bytes_big _ _ _ _ h hm).mono ?_; rintro e w' ⟨rfl, rfl⟩)
  go_ret
  exact ⟨rfl, rfl⟩

theorem walk_mid (a : Option Addr) (len cap : Nat) (w : World) (h : 65536 < len) (hm : len ≤ 1048576) :
    Calls Trym.prog 7 #[.slice a len cap] w fun e w' => e = .returned (.bool true) ∧ w' = w := by
  go_enter Trym.func7, Trym.ntmps7
  go_wp2_with (go_at_call 15; refine (bytes_ok _ _ _ _ hm).mono ?_; rintro e w' ⟨rfl, rfl⟩)
  go_ret
  exact ⟨rfl, rfl⟩

theorem make0 (w : World) : (Instr.makeSlice 36 (.int .i64 0) (.int .i64 0)).run Trym.prog w = .ok (.slice (some ⟨w.heap.size, 0, none⟩) 0 0) (w.alloc (.cells (madeCells #[.int .i32 0, .int .i32 0, .bool false] 0) 30)) :=
  run_make_k (P := Trym.prog) 36 30 (.agg #[.int .i32 0, .int .i32 0, .bool false]) 3 12 Trym.underlying36 info30 .i64 .i64 0 (by omega) (by omega) w

theorem walk_nil (w : World) :
    Calls Trym.prog 7 #[.slice none 0 0] w fun e w' => e = .returned (.bool true) ∧ Below w.heap.size w w' := by
  have hmk := make0
  go_enter Trym.func7, Trym.ntmps7
  go_wp2_with (first | (go_at_call 15; refine (bytes_ok _ _ _ _ (by omega)).mono ?_; rintro e w' ⟨rfl, rfl⟩) | (go_at_call 13; refine (clone_nil _).mono ?_; rintro e w' ⟨rfl, rfl⟩))
  go_rounds 1
  go_rounds 1
  go_rounds 1
  go_ret
  exact ⟨rfl, (Below.refl _ _).alloc (Nat.le_refl _) _⟩

theorem walk_zero (x : Addr) (cap : Nat) (w : World) :
    Calls Trym.prog 7 #[.slice (some x) 0 cap] w fun e w' => e = .returned (.bool true) ∧ Below w.heap.size w w' := by
  have hmk := make0
  go_enter Trym.func7, Trym.ntmps7
  go_wp2_with (first | (go_at_call 15; refine (bytes_ok _ _ _ _ (by omega)).mono ?_; rintro e w' ⟨rfl, rfl⟩) | (go_at_call 13; refine (clone_zero _ _ _).mono ?_; rintro e w1 ⟨rfl, hbel, hsz⟩))
  go_rounds 1
  go_rounds 1
  go_rounds 1
  go_ret
  exact ⟨rfl, hbel.alloc hbel.size _⟩

set_option maxHeartbeats 2000000 in
set_option maxRecDepth 100000 in
theorem walk_pos (b off n cap : Nat) (z : Nat → Int) (w : World) (hlen : n ≤ 65536) (hpos : 0 < n) (hb : b < w.heap.size) (hc : ∀ j, j < n → w.cell? ⟨b, off + j, none⟩ = some (.int .i32 (z j))) :
    Calls Trym.prog 7 #[.slice (some ⟨b, off, none⟩) n cap] w fun e w' => e = .returned (.bool true) ∧ Below w.heap.size w w' := by
  have Hc : Hid (∀ j, j < n → w.cell? ⟨b, off + j, none⟩ = some (.int .i32 (z j))) := hc
  clear hc
  go_enter Trym.func7, Trym.ntmps7
  go_wp2_with (go_at_call 15; refine (bytes_ok _ _ _ _ (by omega)).mono ?_; rintro e w' ⟨rfl, rfl⟩)
  refine (clone_pos b off n cap z _ (by omega) hb Hc.out).mono ?_
  rintro e w1 ⟨rfl, hbel, hsz, hrow⟩
  have hmk := run_make_k (P := Trym.prog) 36 30 (.agg #[.int .i32 0, .int .i32 0, .bool false]) 3 12 Trym.underlying36 info30 .i64 .i64 n (by omega) (by omega)
  have h0 : Hid (St w (w1.alloc (.cells (madeCells #[.int .i32 0, .int .i32 0, .bool false] (n * 3)) 30)) w.heap.size w1.heap.size n z (fun _ => 0) (fun _ => 0) (fun _ => false)) :=
    ⟨hbel.alloc hbel.size _, hrow.alloc _, Nodes.made _ _, Nat.le_refl _, by omega⟩
  clear hrow Hc hsz hbel
  go_wp2
  clear hmk
  generalize w1.heap.size = N2 at *
  go_loopg [5] n (fun g i wr => ∃ k : Nat, ∃ S L : Nat → Int, ∃ B : Nat → Bool, k ≤ n ∧ g = n - k ∧ i = .int .i64 k ∧ St w wr w.heap.size N2 n z S L B ∧ Hid (∀ j, j < k → S j = z j ∧ B j = odd j))
  case atStart => exact ⟨0, _, _, _, Nat.zero_le _, rfl, rfl, h0, fun j hj => absurd hj (Nat.not_lt_zero _)⟩
  case round =>
    obtain ⟨k, S, L, B, hk, rfl, rfl, hst, hd⟩ := hrel
    clear h0
    by_cases hlt : k < n
    · have g1 : wr.cell? ⟨w.heap.size, k, none⟩ = some (.int .i32 (z k)) := hst.row.cell hlt
      have g2 : wr.cell? ⟨N2, k * 3, none⟩ = some (.int .i32 (S k)) := hst.nod.cell0 hlt
      have g3 : wr.cell? ⟨N2, k * 3 + 1, none⟩ = some (.int .i32 (L k)) := hst.nod.cell1 hlt
      have g4 : wr.cell? ⟨N2, k * 3 + 2, none⟩ = some (.bool (B k)) := hst.nod.cell2 hlt
      have f2 : wr.frozen? ⟨N2, k * 3, none⟩ = false := hst.nod.frozen _
      have f3 : wr.frozen? ⟨N2, k * 3 + 1, none⟩ = false := hst.nod.frozen _
      have f4 : wr.frozen? ⟨N2, k * 3 + 2, none⟩ = false := hst.nod.frozen _
      go_wp2
      go_roundg (n - (k + 1))
      case measure => omega
      case rel =>
        refine ⟨k + 1, _, _, _, by omega, rfl, by go_num, hst.set hlt _ _ _, fun j hj => ?_⟩
        by_cases e : j = k
        · subst e; simp [odd]
        · simp only [if_neg e]; exact hd.out j (by omega)
    · have hst2 : St w wr w.heap.size N2 n z z L odd := hst.congr (fun j hj => ⟨(hd.out j (by omega)).1, rfl, (hd.out j (by omega)).2⟩)
      clear hst hd
      go_wp2
      go_loopg [6, 7, 8, 9, 10, 11] n (fun g i _ _ _ _ _ wr => ∃ k : Nat, ∃ x : Int, ∃ L : Nat → Int, k ≤ n ∧ g = k ∧ i = .int .i64 x ∧ Hid (x = (k : Int) - 1) ∧ St w wr w.heap.size N2 n z z L odd ∧ Hid (∀ j, k ≤ j → j < n → Min z n j (L j)))
      case atStart => exact ⟨n, _, L, Nat.le_refl _, rfl, rfl, rfl, hst2, fun j h1 h2 => by omega⟩
      case round =>
        obtain ⟨q, x, L, hq, hg, rfl, hx, hst, hmin⟩ := hrel
        obtain rfl : q = gk := hg.symm
        clear hg
        clear hst2
        cases q with
        | succ i =>
          obtain rfl : x = (i : Int) := by have := hx.out; omega
          clear hx
          have hi : i < n := by omega
          have g2 : wr.cell? ⟨N2, i * 3, none⟩ = some (.int .i32 (z i)) := hst.nod.cell0 hi
          have g3 : wr.cell? ⟨N2, i * 3 + 1, none⟩ = some (.int .i32 (L i)) := hst.nod.cell1 hi
          have g4 : wr.cell? ⟨N2, i * 3 + 2, none⟩ = some (.bool (odd i)) := hst.nod.cell2 hi
          by_cases c2 : 2 * i + 2 < n
          · have c1 : 2 * i + 1 < n := by omega
            have m1 : Hid (Min z n (2 * i + 1) (L (2 * i + 1))) := hmin.out _ (by omega) c1
            have m2 : Hid (Min z n (2 * i + 2) (L (2 * i + 2))) := hmin.out _ (by omega) c2
            go_wp2_with fail
            refine (zz_lr _ _ _ _ _ _ _ _ _ _ _ _ _ _ (hst.nod.node c1) (hst.nod.node c2)).mono ?_
            rintro e w2 ⟨B1, B2, rfl, hB1, hB2, hn1, hn2, hb2⟩
            clear hB1 hB2 hn1 hn2
            clear g2 g3 g4
            have hst3 : ∀ o, St w (w2.alloc o) w.heap.size N2 n z z L odd := fun o => (hst.below hb2).alloc o
            clear hst hb2
            have g2 : ∀ o, (w2.alloc o).cell? ⟨N2, i * 3, none⟩ = some (.int .i32 (z i)) := fun o => (hst3 o).nod.cell0 hi
            have g3 : ∀ o, (w2.alloc o).cell? ⟨N2, i * 3 + 1, none⟩ = some (.int .i32 (L i)) := fun o => (hst3 o).nod.cell1 hi
            have g4 : ∀ o, (w2.alloc o).cell? ⟨N2, i * 3 + 2, none⟩ = some (.bool (odd i)) := fun o => (hst3 o).nod.cell2 hi
            have f2 : ∀ o, (w2.alloc o).frozen? ⟨N2, i * 3, none⟩ = false := fun o => (hst3 o).nod.frozen _
            have f3 : ∀ o, (w2.alloc o).frozen? ⟨N2, i * 3 + 1, none⟩ = false := fun o => (hst3 o).nod.frozen _
            have f4 : ∀ o, (w2.alloc o).frozen? ⟨N2, i * 3 + 2, none⟩ = false := fun o => (hst3 o).nod.frozen _
            go_wp2
            go_roundg i
            case measure => omega
            case rel =>
              refine ⟨i, _, _, by omega, rfl, rfl, rfl, ((hst3 _).set hi _ _ _).congr (fun j hj => ⟨?_, rfl, ?_⟩), fun j h1 h2 => ?_⟩
              · by_cases e : j = i <;> simp [e]
              · by_cases e : j = i <;> simp [e]
              · by_cases e : j = i
                · subst e; simp only [if_true]; exact min_both hi m1.out m2.out
                · simp only [if_neg e]; exact hmin.out j (by omega) h2
          · by_cases c1 : 2 * i + 1 < n
            · have m1 : Hid (Min z n (2 * i + 1) (L (2 * i + 1))) := hmin.out _ (by omega) c1
              go_wp2_with fail
              refine (zz_ln _ _ _ _ _ _ _ _ _ (hst.nod.node c1)).mono ?_
              rintro e w2 ⟨B1, rfl, hB1, hn1, hb2⟩
              clear hB1 hn1
              clear g2 g3 g4
              have hst3 : ∀ o, St w (w2.alloc o) w.heap.size N2 n z z L odd := fun o => (hst.below hb2).alloc o
              clear hst hb2
              have g2 : ∀ o, (w2.alloc o).cell? ⟨N2, i * 3, none⟩ = some (.int .i32 (z i)) := fun o => (hst3 o).nod.cell0 hi
              have g3 : ∀ o, (w2.alloc o).cell? ⟨N2, i * 3 + 1, none⟩ = some (.int .i32 (L i)) := fun o => (hst3 o).nod.cell1 hi
              have g4 : ∀ o, (w2.alloc o).cell? ⟨N2, i * 3 + 2, none⟩ = some (.bool (odd i)) := fun o => (hst3 o).nod.cell2 hi
              have f2 : ∀ o, (w2.alloc o).frozen? ⟨N2, i * 3, none⟩ = false := fun o => (hst3 o).nod.frozen _
              have f3 : ∀ o, (w2.alloc o).frozen? ⟨N2, i * 3 + 1, none⟩ = false := fun o => (hst3 o).nod.frozen _
              have f4 : ∀ o, (w2.alloc o).frozen? ⟨N2, i * 3 + 2, none⟩ = false := fun o => (hst3 o).nod.frozen _
              go_wp2
              go_roundg i
              case measure => omega
              case rel =>
                refine ⟨i, _, _, by omega, rfl, rfl, rfl, ((hst3 _).set hi _ _ _).congr (fun j hj => ⟨?_, rfl, ?_⟩), fun j h1 h2 => ?_⟩
                · by_cases e : j = i <;> simp [e]
                · by_cases e : j = i <;> simp [e]
                · by_cases e : j = i
                  · subst e; simp only [if_true]; exact min_left hi (by omega) m1.out
                  · simp only [if_neg e]; exact hmin.out j (by omega) h2
            · go_wp2_with fail
              refine (zz_nn _ _ _ _).mono ?_
              rintro e w2 ⟨rfl, hb2⟩
              clear g2 g3 g4
              have hst3 : ∀ o, St w (w2.alloc o) w.heap.size N2 n z z L odd := fun o => (hst.below hb2).alloc o
              clear hst hb2
              have g2 : ∀ o, (w2.alloc o).cell? ⟨N2, i * 3, none⟩ = some (.int .i32 (z i)) := fun o => (hst3 o).nod.cell0 hi
              have g3 : ∀ o, (w2.alloc o).cell? ⟨N2, i * 3 + 1, none⟩ = some (.int .i32 (L i)) := fun o => (hst3 o).nod.cell1 hi
              have g4 : ∀ o, (w2.alloc o).cell? ⟨N2, i * 3 + 2, none⟩ = some (.bool (odd i)) := fun o => (hst3 o).nod.cell2 hi
              have f2 : ∀ o, (w2.alloc o).frozen? ⟨N2, i * 3, none⟩ = false := fun o => (hst3 o).nod.frozen _
              have f3 : ∀ o, (w2.alloc o).frozen? ⟨N2, i * 3 + 1, none⟩ = false := fun o => (hst3 o).nod.frozen _
              have f4 : ∀ o, (w2.alloc o).frozen? ⟨N2, i * 3 + 2, none⟩ = false := fun o => (hst3 o).nod.frozen _
              go_wp2
              go_roundg i
              case measure => omega
              case rel =>
                refine ⟨i, _, _, by omega, rfl, rfl, rfl, ((hst3 _).set hi _ _ _).congr (fun j hj => ⟨?_, rfl, ?_⟩), fun j h1 h2 => ?_⟩
                · by_cases e : j = i <;> simp [e]
                · by_cases e : j = i <;> simp [e]
                · by_cases e : j = i
                  · subst e; simp only [if_true]; exact min_leaf hi (by omega)
                  · simp only [if_neg e]; exact hmin.out j (by omega) h2
        | zero =>
          obtain rfl : x = (-1 : Int) := by have := hx.out; omega
          have Hmin : Hid (∀ j, j < n → Min z n j (L j)) := fun j hj => hmin.out j (Nat.zero_le _) hj
          clear hx hmin
          go_wp2
          go_loopg [12, 13, 14, 15, 16] n (fun g i _ _ _ _ wr => ∃ k : Nat, k ≤ n ∧ g = n - k ∧ i = .int .i64 k ∧ St w wr w.heap.size N2 n z z L odd)
          case atStart => exact ⟨0, Nat.zero_le _, rfl, rfl, hst⟩
          case round =>
            obtain ⟨i, hi, rfl, rfl, hst⟩ := hrel
            by_cases hlt : i < n
            · have g1 : wr.cell? ⟨w.heap.size, i, none⟩ = some (.int .i32 (z i)) := hst.row.cell hlt
              have g2 : wr.cell? ⟨N2, i * 3, none⟩ = some (.int .i32 (z i)) := hst.nod.cell0 hlt
              have g4 : wr.cell? ⟨N2, i * 3 + 2, none⟩ = some (.bool ((i : Int) % 2 == 1)) := hst.nod.cell2 hlt
              go_wp2
              go_quiet (fail)
              go_wp2
              have hstq := hst.drewN nq
              clear g1 g2 g4 hst
              go_loopg [13, 14, 15, 16] (n - i) (fun g want l h _ wq => ∃ d lv hv : Nat, ∃ m : Int, g = n - lv ∧ lv ≤ 131073 ∧ hv ≤ 2 * lv ∧ lv ≤ hv ∧ want = .int .i32 m ∧ l = .int .i64 lv ∧ h = .int .i64 hv ∧ St w wq w.heap.size N2 n z z L odd ∧ Hid (lv = Tree.lo d i ∧ hv = Tree.hi d i ∧ Seen z n i d lv m))
              case atStart => exact ⟨0, i, i, z i, rfl, by omega, by omega, by omega, rfl, rfl, rfl, hstq, rfl, rfl, seen_start hlt⟩
              case round =>
                obtain ⟨d, lv, hv, m, rfl, hl1, hl2, hl3, rfl, rfl, rfl, hst4, hseen⟩ := hrel
                clear hstq
                by_cases hln : lv < n
                · go_wp2
                  go_loopg [13, 16] (n - lv) (fun g want jx wq => ∃ jj : Nat, ∃ m : Int, g = n - jj ∧ lv ≤ jj ∧ jj ≤ n ∧ want = .int .i32 m ∧ jx = .int .i64 jj ∧ St w wq w.heap.size N2 n z z L odd ∧ Hid (lv = Tree.lo d i ∧ hv = Tree.hi d i ∧ Seen z n i d jj m))
                  case atStart => exact ⟨lv, m, rfl, by omega, by omega, rfl, rfl, hst4, hseen⟩
                  case round =>
                    obtain ⟨jj, m, rfl, hj1, hj2, rfl, rfl, hst5, hseen5⟩ := hrel
                    clear hst4 hseen
                    by_cases hjh : jj ≤ hv
                    · by_cases hjn : jj < n
                      · have g1 : wr.cell? ⟨w.heap.size, jj, none⟩ = some (.int .i32 (z jj)) := hst5.row.cell hjn
                        by_cases hless : z jj < m
                        · go_wp2
                          go_roundg (n - (jj + 1))
                          case measure => omega
                          case rel => exact ⟨jj + 1, z jj, rfl, by omega, by omega, rfl, by go_num, hst5, hseen5.out.1, hseen5.out.2.1, seen_less hseen5.out.2.2 hless (by have := hseen5.out.1; omega) (by have := hseen5.out.2.1; omega) hjn⟩
                        · go_wp2
                          go_roundg (n - (jj + 1))
                          case measure => omega
                          case rel => exact ⟨jj + 1, m, rfl, by omega, by omega, rfl, by go_num, hst5, hseen5.out.1, hseen5.out.2.1, seen_keep hseen5.out.2.2 (by omega)⟩
                      · go_wp2
                        go_roundg (n - (2 * lv + 1))
                        case measure => omega
                        case rel => exact ⟨d + 1, 2 * lv + 1, 2 * hv + 2, m, rfl, by omega, by omega, by omega, rfl, by go_num, by go_num, hst5, by rw [hseen5.out.1]; rfl, by rw [hseen5.out.2.1]; rfl, by rw [show 2 * lv + 1 = Tree.lo (d + 1) i from by rw [hseen5.out.1]; rfl]; exact seen_next hseen5.out.2.2 (.inr (by omega))⟩
                    · have hd5 : decide ((jj : Int) ≤ (hv : Int)) = false := by simp; omega
                      go_wp2
                      go_roundg (n - (2 * lv + 1))
                      case measure => omega
                      case rel => exact ⟨d + 1, 2 * lv + 1, 2 * hv + 2, m, rfl, by omega, by omega, by omega, rfl, by go_num, by go_num, hst5, by rw [hseen5.out.1]; rfl, by rw [hseen5.out.2.1]; rfl, by rw [show 2 * lv + 1 = Tree.lo (d + 1) i from by rw [hseen5.out.1]; rfl]; exact seen_next hseen5.out.2.2 (.inl (by have := hseen5.out.2.1; omega))⟩
                · have hm : L i = m := min_one (Hmin.out i hlt) (seen_done hseen.out.2.2 (by have := hseen.out.1; omega))
                  have g3 : wr.cell? ⟨N2, i * 3 + 1, none⟩ = some (.int .i32 m) := by rw [← hm]; exact hst4.nod.cell1 hlt
                  clear hm
                  go_wp2
                  go_roundg (n - (i + 1))
                  case measure => omega
                  case rel => exact ⟨i + 1, by omega, rfl, by go_num, hst4⟩
            · go_wp2
              go_ret
              exact ⟨rfl, hst.bel⟩

end Go.Proofs.Qxb6601076aMods.Tree
