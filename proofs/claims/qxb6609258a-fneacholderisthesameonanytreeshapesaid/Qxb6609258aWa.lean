/-
  WALKS (a): zzBytes, zzLess.
-/
import Derived.Test.Qxb6609258aRows
import Derived.WalkKit
import Derived.WalkSpells
import Derived.Deep.QuietTactic
import Derived.BigQuiet
import Derived.Test.Qxb6609258aMem
import Derived.Test.Qxb6609258aPlain
namespace Go.Proofs.Qxb6609258a
open Go.RowKit

/-- zzBytes: more than 1<<20 cells: no. -/
theorem bytes_no (a : Option Addr) (n c : Nat) (x y : Int) (w : World) (h : 1048576 < n) :
    Calls Try.prog 15 #[.slice a n c, .int .u64 x, .int .u64 y] w fun e w' => e = .returned (.bool false) ∧ w' = w := by
  go_enter Try.func15, Try.ntmps15
  go_wp2
  go_ret
  exact ⟨rfl, rfl⟩
theorem bytes_yes (a : Option Addr) (n c : Nat) (x y : Int) (w : World) (h : n ≤ 1048576) :
    Calls Try.prog 15 #[.slice a n c, .int .u64 x, .int .u64 y] w fun e w' => e = .returned (.bool true) ∧ w' = w := by
  go_enter Try.func15, Try.ntmps15
  go_wp2
  go_ret
  exact ⟨rfl, rfl⟩


theorem less_lt (b n i j : Nat) (x y : Int) (hi : i < n) (hj : j < n) (w : World) (ci : w.cell? ⟨b, i, none⟩ = some (.int .u64 x)) (cj : w.cell? ⟨b, j, none⟩ = some (.int .u64 y)) (h : x < y) :
    Calls Try.prog 13 #[.slice (some ⟨b, 0, none⟩) n n, .int .i64 (i : Int), .int .i64 (j : Int)] w fun e w' => e = .returned (.bool true) ∧ ∃ q, w' = w.drewN q := by
  have i1 : (i : Int) < (n : Int) := by omega
  have j1 : (j : Int) < (n : Int) := by omega
  have hd : decide (x < y) = true := by simpa using h
  go_enter Try.func13, Try.ntmps13
  go_wp2
  go_quiet (fail)
  go_wp2
  go_ret
  exact ⟨rfl, _, rfl⟩

theorem less_eq (b n i j : Nat) (x : Int) (hi : i < n) (hj : j < n) (w : World) (ci : w.cell? ⟨b, i, none⟩ = some (.int .u64 x)) (cj : w.cell? ⟨b, j, none⟩ = some (.int .u64 x)) :
    Calls Try.prog 13 #[.slice (some ⟨b, 0, none⟩) n n, .int .i64 (i : Int), .int .i64 (j : Int)] w fun e w' => e = .returned (.bool (decide ((i : Int) < (j : Int)))) ∧ ∃ q, w' = w.drewN q := by
  have i1 : (i : Int) < (n : Int) := by omega
  have j1 : (j : Int) < (n : Int) := by omega
  have hd : decide (x < x) = false := by simp
  have hq : (x == x) = true := by simp
  by_cases h : (i : Int) < (j : Int)
  · have hd2 : decide ((i : Int) < (j : Int)) = true := by simpa using h
    go_enter Try.func13, Try.ntmps13
    go_wp2
    go_quiet (fail)
    go_wp2
    go_ret
    exact ⟨by rw [hd2]; rfl, _, rfl⟩
  · have hd2 : decide ((i : Int) < (j : Int)) = false := by simpa using h
    go_enter Try.func13, Try.ntmps13
    go_wp2
    go_quiet (fail)
    go_wp2
    go_ret
    exact ⟨by rw [hd2]; simp; omega, _, rfl⟩

theorem less_gt (b n i j : Nat) (x y : Int) (hi : i < n) (hj : j < n) (w : World) (ci : w.cell? ⟨b, i, none⟩ = some (.int .u64 x)) (cj : w.cell? ⟨b, j, none⟩ = some (.int .u64 y)) (h : y < x) :
    Calls Try.prog 13 #[.slice (some ⟨b, 0, none⟩) n n, .int .i64 (i : Int), .int .i64 (j : Int)] w fun e w' => e = .returned (.bool false) ∧ ∃ q, w' = w.drewN q := by
  have i1 : (i : Int) < (n : Int) := by omega
  have j1 : (j : Int) < (n : Int) := by omega
  have hd : decide (x < y) = false := by simp; omega
  have hq : (x == y) = false := by simp; omega
  go_enter Try.func13, Try.ntmps13
  go_wp2
  go_quiet (fail)
  go_wp2
  go_ret
  exact ⟨rfl, _, rfl⟩

theorem less_any (b n i j : Nat) (x y : Int) (hi : i < n) (hj : j < n) (w : World) (ci : w.cell? ⟨b, i, none⟩ = some (.int .u64 x)) (cj : w.cell? ⟨b, j, none⟩ = some (.int .u64 y)) :
    Calls Try.prog 13 #[.slice (some ⟨b, 0, none⟩) n n, .int .i64 (i : Int), .int .i64 (j : Int)] w fun e w' => e = .returned (.bool (lessB x y i j)) ∧ ∃ q, w' = w.drewN q := by
  rcases Int.lt_trichotomy x y with h | h | h
  · rw [show lessB x y i j = true from by simp [lessB, h]]
    exact less_lt b n i j x y hi hj w ci cj h
  · subst h
    rw [show lessB x x i j = decide ((i : Int) < (j : Int)) from by simp [lessB]]
    exact less_eq b n i j x hi hj w ci cj
  · rw [show lessB x y i j = false from by simp [lessB]; omega]
    exact less_gt b n i j x y hi hj w ci cj h

/-! ### zzSplitSpans -/
theorem Try.info38 : (Try.prog.info? 38).map (fun i => (i.zero, i.size, i.bytes)) = some (some (.int .u64 0), 1, 8) := by kernel_rfl
theorem Try.info3 : (Try.prog.info? 3).map (fun i => (i.zero, i.size, i.bytes)) = some (some (.int .i64 0), 1, 8) := by kernel_rfl

/-- What is known of the argument's cells. -/
def SpAt (w : World) (at0 : Option Addr) (n : Nat) (FL H : Nat → Int) : Prop :=
  0 < n → ∃ b off, at0 = some ⟨b, off, none⟩ ∧ b < w.heap.size ∧ ∀ i, i < n → w.cell? ⟨b, off + i * 2, none⟩ = some (.int .u64 (FL i)) ∧ w.cell? ⟨b, off + i * 2 + 1, none⟩ = some (.int .u64 (H i))

set_option maxHeartbeats 400000 in
theorem split_any (at0 : Option Addr) (n c : Nat) (FL H : Nat → Int) (w : World) (hn : n ≤ 4096) (hat : Hid (SpAt w at0 n FL H)) :
    Calls Try.prog 8 #[.slice at0 n c] w fun e w' => e = .returned (.tuple #[.slice (some ⟨w.heap.size, 0, none⟩) n n, .slice (some ⟨w.heap.size + 1, 0, none⟩) n n]) ∧
      w'.rowIs w.heap.size 38 n (fun i => .int .u64 (FL i)) ∧ w'.rowIs (w.heap.size + 1) 38 n (fun i => .int .u64 (H i)) ∧ Below w.heap.size w w' ∧ w'.heap.size = w.heap.size + 2 := by
  have hmk := run_make_row' (P := Try.prog) 25 38 (.int .u64 0) 8 Try.underlying25 Try.info38 rfl .i64 .i64 n (by omega) (by omega)
  go_enter Try.func8, Try.ntmps8
  go_wp2
  go_loopw [6] (fun i wr => ∃ k : Nat, k ≤ n ∧ i = .int .i64 k ∧ wr.rowIs w.heap.size 38 n (fun i => .int .u64 (if i < k then FL i else 0)) ∧ wr.rowIs (w.heap.size + 1) 38 n (fun i => .int .u64 (if i < k then H i else 0)) ∧ Below w.heap.size w wr ∧ wr.heap.size = w.heap.size + 2)
    (fun i _ => n - (intOf i).toNat)
  case atStart => exact ⟨0, Nat.zero_le _, rfl, (World.rowIs_made _ _ _ _).alloc _, by simpa using World.rowIs_made (w.alloc (.cells (madeCells #[.int .u64 0] n) 38)) (.int .u64 0) n 38, ((Below.refl _ _).alloc (Nat.le_refl _) _).alloc (by simp) _, by simp⟩
  case round =>
    obtain ⟨k, hk, rfl, h1, h2, hbel, hsz⟩ := hrel
    by_cases hlt : k < n
    · obtain ⟨b, off, rfl, hb, hcells⟩ := hat.out (by omega)
      have c1 := (hbel.cell (p := ⟨b, off + k * 2, none⟩) hb).trans (hcells k hlt).1
      have c2 := (hbel.cell (p := ⟨b, off + k * 2 + 1, none⟩) hb).trans (hcells k hlt).2
      have d1 := h1.cell hlt
      have d2 := h2.cell hlt
      have f1 := h1.frozen k
      have f2 := h2.frozen k
      clear hcells
      go_wp2
      go_roundw
      case rel => exact ⟨k + 1, by omega, by go_num, (row_fill h1).setOther (by simp) _, row_fill (h2.setOther (by simp) _), (hbel.setCell (Nat.le_refl _) _).setCell (by simp) _, by simpa using hsz⟩
      case measure => simp [intOf]; omega
    · go_wp2
      go_ret2
      exact ⟨rfl, row_filled h1 (by omega), row_filled h2 (by omega), hbel, hsz⟩
end Go.Proofs.Qxb6609258a
