/-
  WALKS (f): ZZnewSpanIndex.
-/
import Derived.Test.Qxb6609258aWe
import Derived.Deep.RegionHeld3
namespace Go.Proofs.Qxb6609258a
open Go.RowKit

/-- Cell i of a row of the treap's nodes. -/
def tnV (N : Nat → Nat → Int) (i : Nat) : Value := .int (if i % 8 < 4 then .u64 else if i % 8 < 7 then .i32 else .u32) (N (i / 8) (i % 8))
def TRow (w : World) (b n : Nat) (N : Nat → Nat → Int) : Prop := w.rowIs b 60 (n * 8) (tnV N)
theorem TRow.cell {w : World} {b n : Nat} {N : Nat → Nat → Int} (h : TRow w b n N) {k : Nat} (hk : k < n) (c : Nat) (hc : c < 8) :
    w.cell? ⟨b, k * 8 + c, none⟩ = some (.int (if c < 4 then .u64 else if c < 7 then .i32 else .u32) (N k c)) := by
  have := World.rowIs.cell h (i := k * 8 + c) (by omega)
  rw [this]
  have e1 : (k * 8 + c) % 8 = c := by omega
  have e2 : (k * 8 + c) / 8 = k := by omega
  simp [tnV, e1, e2]
theorem TRow.frozen {w : World} {b n : Nat} {N : Nat → Nat → Int} (h : TRow w b n N) (i : Nat) : w.frozen? ⟨b, i, none⟩ = false := World.rowIs.frozen h i
def put8 (w : World) (b t : Nat) (a0 a1 a2 a3 a4 a5 a6 a7 : Int) : World :=
  ((((((((w.setCell ⟨b, t * 8, none⟩ (.int .u64 a0)).setCell ⟨b, t * 8 + 1, none⟩ (.int .u64 a1)).setCell ⟨b, t * 8 + 2, none⟩ (.int .u64 a2)).setCell ⟨b, t * 8 + 3, none⟩ (.int .u64 a3)).setCell
    ⟨b, t * 8 + 4, none⟩ (.int .i32 a4)).setCell ⟨b, t * 8 + 5, none⟩ (.int .i32 a5)).setCell ⟨b, t * 8 + 6, none⟩ (.int .i32 a6)).setCell ⟨b, t * 8 + 7, none⟩ (.int .u32 a7))
/-- The first k nodes are copied. -/
def cpN (N : Nat → Nat → Int) (k : Nat) (j c : Nat) : Int := if j < k then (if c < 7 then N j c else 0) else 0
theorem TRow.put {w : World} {b n : Nat} {N : Nat → Nat → Int} {k : Nat} (h : TRow w b n (cpN N k)) : TRow (put8 w b k (N k 0) (N k 1) (N k 2) (N k 3) (N k 4) (N k 5) (N k 6) 0) b n (cpN N (k + 1)) := by
  refine ((((((((World.rowIs.set h (k * 8) (.int .u64 (N k 0))).set (k * 8 + 1) (.int .u64 (N k 1))).set (k * 8 + 2) (.int .u64 (N k 2))).set (k * 8 + 3) (.int .u64 (N k 3))).set (k * 8 + 4) (.int .i32 (N k 4))).set (k * 8 + 5) (.int .i32 (N k 5))).set (k * 8 + 6) (.int .i32 (N k 6))).set (k * 8 + 7) (.int .u32 0)).congr fun i _ => ?_
  by_cases hi : i / 8 = k
  · have e : i = k * 8 + i % 8 := by omega
    have hk : k < k + 1 := by omega
    rcases (by omega : i % 8 = 0 ∨ i % 8 = 1 ∨ i % 8 = 2 ∨ i % 8 = 3 ∨ i % 8 = 4 ∨ i % 8 = 5 ∨ i % 8 = 6 ∨ i % 8 = 7) with h | h | h | h | h | h | h | h <;> (rw [h] at e) <;>
      (simp only [tnV, cpN, hi, h]; subst e; simp)
  · have n0 : ¬ i = k * 8 := by omega
    have n1 : ¬ i = k * 8 + 1 := by omega
    have n2 : ¬ i = k * 8 + 2 := by omega
    have n3 : ¬ i = k * 8 + 3 := by omega
    have n4 : ¬ i = k * 8 + 4 := by omega
    have n5 : ¬ i = k * 8 + 5 := by omega
    have n6 : ¬ i = k * 8 + 6 := by omega
    have n7 : ¬ i = k * 8 + 7 := by omega
    have e : cpN N k (i / 8) (i % 8) = cpN N (k + 1) (i / 8) (i % 8) := by
      unfold cpN
      by_cases hk : i / 8 < k
      · have : i / 8 < k + 1 := by omega
        simp only [hk, this, if_true]
      · have : ¬ i / 8 < k + 1 := by omega
        simp only [hk, this, if_false]
    simp only [n0, n1, n2, n3, n4, n5, n6, n7, if_false, tnV, e]
theorem row_put8 {w : World} {b b' t' n t : Nat} {f : Nat → Value} (h : w.rowIs b t' n f) (ne : b ≠ b') (a0 a1 a2 a3 a4 a5 a6 a7 : Int) : (put8 w b' t a0 a1 a2 a3 a4 a5 a6 a7).rowIs b t' n f :=
  (((((((h.setOther ne _).setOther ne _).setOther ne _).setOther ne _).setOther ne _).setOther ne _).setOther ne _).setOther ne _
theorem below_put8 {B : Nat} {a w : World} {b t : Nat} (h : Below B a w) (hb : B ≤ b) (a0 a1 a2 a3 a4 a5 a6 a7 : Int) : Below B a (put8 w b t a0 a1 a2 a3 a4 a5 a6 a7) :=
  (((((((h.setCell hb _).setCell hb _).setCell hb _).setCell hb _).setCell hb _).setCell hb _).setCell hb _).setCell hb _

def zero60 : Array Value := #[.int .u64 0, .int .u64 0, .int .u64 0, .int .u64 0, .int .i32 0, .int .i32 0, .int .i32 0, .int .u32 0]
def made60 (n : Nat) : Obj := .cells (madeCells zero60 (n * 8)) 60
theorem Try.info60 : (Try.prog.info? 60).map (fun i => (i.zero.map (·.cells), i.size, i.bytes)) = some (some zero60, 8, 48) := by kernel_rfl
theorem make60 (n : Nat) (hn : n ≤ 4096) (w : World) :
    (Instr.makeSlice 47 (.int .i64 (n : Int)) (.int .i64 (n : Int))).run Try.prog w = .ok (.slice (some ⟨w.heap.size, 0, none⟩) n n) (w.alloc (made60 n)) := by
  obtain ⟨i, hi, hz⟩ := Option.map_eq_some_iff.1 Try.info60
  simp only [Prod.mk.injEq] at hz
  obtain ⟨h1, h2, h3⟩ := hz
  obtain ⟨z, hz1, hz2⟩ := Option.map_eq_some_iff.1 h1
  have hr := run_make (P := Try.prog) w 47 60 i z Try.underlying47 hi hz1 .i64 .i64 n n (by omega) (Int.le_refl _) (by rw [h3]; omega) (by omega)
  simp only [Int.toNat_natCast, h2, hz2] at hr
  exact hr
theorem trow_made (w : World) (n : Nat) (N : Nat → Nat → Int) : TRow (w.alloc (made60 n)) w.heap.size n (cpN N 0) := by
  refine ⟨_, Deep.blk_alloc_new _ _, size_madeCells _ _, fun i hi => ?_⟩
  simp only [madeCells, tnV, cpN]
  rcases (by omega : i % 8 = 0 ∨ i % 8 = 1 ∨ i % 8 = 2 ∨ i % 8 = 3 ∨ i % 8 = 4 ∨ i % 8 = 5 ∨ i % 8 = 6 ∨ i % 8 = 7) with h | h | h | h | h | h | h | h <;> simp [zero60, hi, h]

/-- The index's own two cells. -/
def XRow (w : World) (b n : Nat) (top : Int) : Prop := w.rowIs b 51 2 (fun i => if i = 0 then .slice (some ⟨b + 1, 0, none⟩) n n else .int .i32 top)

set_option maxRecDepth 100000 in
set_option maxHeartbeats 1000000 in
theorem index_any (bn n : Nat) (top : Int) (N : Nat → Nat → Int) (w : World) (hn : n ≤ 4096) (hN : NRow w bn n N) :
    Calls Try.prog 11 #[.slice (some ⟨bn, 0, none⟩) n n, .int .i32 top] w
      fun e w' => e = .returned (.pointer (some ⟨w.heap.size, 0, none⟩)) ∧ XRow w' w.heap.size n top ∧ TRow w' (w.heap.size + 1) n (cpN N n) ∧ Below w.heap.size w w' := by
  have hmk := make60 n hn
  have hl := World.rowIs.lt hN
  go_enter Try.func11, Try.ntmps11
  go_wp2
  go_loopw [6, 18] (fun _ i wr => ∃ k : Nat, k ≤ n ∧ i = .int .i64 k ∧ XRow wr w.heap.size n 0 ∧ TRow wr (w.heap.size + 1) n (cpN N k) ∧ Below w.heap.size w wr)
    (fun _ i _ => n - (intOf i).toNat)
  case atStart =>
    refine ⟨0, Nat.zero_le _, rfl, World.rowIs.alloc ?_ _, ?_, ((Below.refl _ _).alloc (Nat.le_refl _) _).alloc (by simp) _⟩
    · refine World.rowIs_alloc w #[.slice (some ⟨w.heap.size + 1, 0, none⟩) n n, .int .i32 0] 51 _ fun i hi => ?_
      simp at hi
      rcases (by omega : i = 0 ∨ i = 1) with rfl | rfl <;> simp
    · simpa using trow_made (w.alloc (.cells #[.slice (some ⟨w.heap.size + 1, 0, none⟩) n n, .int .i32 0] 51)) n N
  case round =>
    obtain ⟨k, hk, rfl, hX, hT, hbel⟩ := hrel
    have x0 : wr.cell? ⟨w.heap.size, 0, none⟩ = some (.slice (some ⟨w.heap.size + 1, 0, none⟩) n n) := World.rowIs.cell hX (i := 0) (by omega)
    have x1 : wr.cell? ⟨w.heap.size, 1, none⟩ = some (.int .i32 0) := World.rowIs.cell hX (i := 1) (by omega)
    have xf := World.rowIs.frozen hX 1
    by_cases hlt : k < n
    · have c0 : wr.cell? ⟨bn, k * 7, none⟩ = some (.int .u64 (N k 0)) := (hbel.cell (p := ⟨bn, k * 7, none⟩) hl).trans (hN.cell hlt 0 (by omega))
      have c1 : wr.cell? ⟨bn, k * 7 + 1, none⟩ = some (.int .u64 (N k 1)) := (hbel.cell (p := ⟨bn, k * 7 + 1, none⟩) hl).trans (hN.cell hlt 1 (by omega))
      have c2 : wr.cell? ⟨bn, k * 7 + 2, none⟩ = some (.int .u64 (N k 2)) := (hbel.cell (p := ⟨bn, k * 7 + 2, none⟩) hl).trans (hN.cell hlt 2 (by omega))
      have c3 : wr.cell? ⟨bn, k * 7 + 3, none⟩ = some (.int .u64 (N k 3)) := (hbel.cell (p := ⟨bn, k * 7 + 3, none⟩) hl).trans (hN.cell hlt 3 (by omega))
      have c4 : wr.cell? ⟨bn, k * 7 + 4, none⟩ = some (.int .i32 (N k 4)) := (hbel.cell (p := ⟨bn, k * 7 + 4, none⟩) hl).trans (hN.cell hlt 4 (by omega))
      have c5 : wr.cell? ⟨bn, k * 7 + 5, none⟩ = some (.int .i32 (N k 5)) := (hbel.cell (p := ⟨bn, k * 7 + 5, none⟩) hl).trans (hN.cell hlt 5 (by omega))
      have c6 : wr.cell? ⟨bn, k * 7 + 6, none⟩ = some (.int .i32 (N k 6)) := (hbel.cell (p := ⟨bn, k * 7 + 6, none⟩) hl).trans (hN.cell hlt 6 (by omega))
      have d0 : wr.cell? ⟨w.heap.size + 1, k * 8, none⟩ = some _ := hT.cell hlt 0 (by omega)
      have d1 : wr.cell? ⟨w.heap.size + 1, k * 8 + 1, none⟩ = some _ := hT.cell hlt 1 (by omega)
      have d2 : wr.cell? ⟨w.heap.size + 1, k * 8 + 2, none⟩ = some _ := hT.cell hlt 2 (by omega)
      have d3 : wr.cell? ⟨w.heap.size + 1, k * 8 + 3, none⟩ = some _ := hT.cell hlt 3 (by omega)
      have d4 : wr.cell? ⟨w.heap.size + 1, k * 8 + 4, none⟩ = some _ := hT.cell hlt 4 (by omega)
      have d5 : wr.cell? ⟨w.heap.size + 1, k * 8 + 5, none⟩ = some _ := hT.cell hlt 5 (by omega)
      have d6 : wr.cell? ⟨w.heap.size + 1, k * 8 + 6, none⟩ = some _ := hT.cell hlt 6 (by omega)
      have d7 : wr.cell? ⟨w.heap.size + 1, k * 8 + 7, none⟩ = some _ := hT.cell hlt 7 (by omega)
      have f0 := fun i => hT.frozen i
      have kn : (k : Int) < (n : Int) := by omega
      simp only [Nat.reduceLT, ↓reduceIte] at d0 d1 d2 d3 d4 d5 d6 d7
      have k0 : (0 : Int) ≤ (k : Int) := by omega
      have hne : ¬ bn = w.heap.size + 1 := by omega
      have hne' : ¬ w.heap.size + 1 = bn := by omega
      have RX : Hid (XRow (put8 wr (w.heap.size + 1) k (N k 0) (N k 1) (N k 2) (N k 3) (N k 4) (N k 5) (N k 6) 0).drew w.heap.size n 0) := World.rowIs.drew (w := put8 wr (w.heap.size + 1) k (N k 0) (N k 1) (N k 2) (N k 3) (N k 4) (N k 5) (N k 6) 0) (row_put8 hX (by omega) _ _ _ _ _ _ _ _)
      have RT : Hid (TRow (put8 wr (w.heap.size + 1) k (N k 0) (N k 1) (N k 2) (N k 3) (N k 4) (N k 5) (N k 6) 0).drew (w.heap.size + 1) n (cpN N (k + 1))) := World.rowIs.drew (w := put8 wr (w.heap.size + 1) k (N k 0) (N k 1) (N k 2) (N k 3) (N k 4) (N k 5) (N k 6) 0) hT.put
      have RB : Hid (Below w.heap.size w (put8 wr (w.heap.size + 1) k (N k 0) (N k 1) (N k 2) (N k 3) (N k 4) (N k 5) (N k 6) 0).drew) := (below_put8 hbel (by omega) _ _ _ _ _ _ _ _).drew
      clear hX hT
      go_wp2
      go_region_held3 (fun w' => w'.cell? ⟨w.heap.size, 0, none⟩ = some (.slice (some ⟨w.heap.size + 1, 0, none⟩) n n) ∧ w'.cell? ⟨bn, k * 7, none⟩ = some (.int .u64 (N k 0)) ∧ w'.cell? ⟨bn, k * 7 + 1, none⟩ = some (.int .u64 (N k 1)) ∧ w'.cell? ⟨bn, k * 7 + 2, none⟩ = some (.int .u64 (N k 2)) ∧
          w'.cell? ⟨bn, k * 7 + 3, none⟩ = some (.int .u64 (N k 3)) ∧ w'.cell? ⟨bn, k * 7 + 4, none⟩ = some (.int .i32 (N k 4)) ∧ w'.cell? ⟨bn, k * 7 + 5, none⟩ = some (.int .i32 (N k 5)) ∧ w'.cell? ⟨bn, k * 7 + 6, none⟩ = some (.int .i32 (N k 6)))
        (go_keep) (fail)
      go_wp2
      go_roundw
      case rel => exact ⟨k + 1, by omega, by go_num, RX.out, RT.out, RB.out⟩
      case measure => simp [intOf]; omega
    · obtain rfl : k = n := by omega
      have RX : Hid (XRow (wr.setCell ⟨w.heap.size, 1, none⟩ (.int .i32 top)) w.heap.size k top) := by
        refine (World.rowIs.set hX 1 _).congr fun i hi => ?_
        rcases (by omega : i = 0 ∨ i = 1) with rfl | rfl <;> simp
      go_wp2
      go_ret
      exact ⟨rfl, RX.out, World.rowIs.setOther hT (by simp) _, hbel.setCell (Nat.le_refl _) _⟩
end Go.Proofs.Qxb6609258a
