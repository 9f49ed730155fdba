/-
  WALKS (h): eachOlder, ZZeachOlder, zzEqInts.
-/
import Derived.Test.Qxb6609258aWg
namespace Go.Proofs.Qxb6609258a
open Go.RowKit

set_option maxRecDepth 100000 in
set_option maxHeartbeats 1000000 in
theorem each_any (FL H : Nat → Int) (n bx c d : Nat) (M : Nat → Nat → Int) (lo hi top : Int) (s : List Nat) (w : World) (hn : n ≤ 4096) (hX : XRow w bx n top) (hR : TRow w (bx + 1) n M) (ho : OutIs w c []) (hlt : bx + 1 < c)
    (hT : Tree FL H n M d top s) (hs : s.length ≤ 4096) :
    Calls Try.prog 21 #[.pointer (some ⟨bx, 0, none⟩), .agg #[.int .u64 lo, .int .u64 hi], .func (.func 22) #[] #[.pointer (some ⟨c, 0, none⟩)]] w
      fun e w' => e = .returned (.tuple #[]) ∧ OutIs w' c (fnd FL H lo hi s) ∧ Fr c w w' := by
  have hcl := ho.lt
  have P0 : Hid (Pre bx c n M [] (w.alloc (.cells #[.int .u64 lo, .int .u64 hi] 55))) := (Pre.mk ⟨top, hX⟩ hR ho hlt).alloc _
  have X0 : XRow (w.alloc (.cells #[.int .u64 lo, .int .u64 hi] 55)) bx n top := World.rowIs.alloc hX _
  have B0 := box_made w lo hi
  have F0 : Hid (Fr c w (w.alloc (.cells #[.int .u64 lo, .int .u64 hi] 55))) := (Fr.refl c w).alloc (Nat.le_of_lt hcl) _
  have x1 : (w.alloc (.cells #[.int .u64 lo, .int .u64 hi] 55)).cell? ⟨bx, 1, none⟩ = some (.int .i32 top) := World.rowIs.cell X0 (i := 1) (by omega)
  have b0 : (w.alloc (.cells #[.int .u64 lo, .int .u64 hi] 55)).cell? ⟨w.heap.size, 0, none⟩ = some (.int .u64 lo) := World.rowIs.cell B0 (i := 0) (by omega)
  have b1 : (w.alloc (.cells #[.int .u64 lo, .int .u64 hi] 55)).cell? ⟨w.heap.size, 1, none⟩ = some (.int .u64 hi) := World.rowIs.cell B0 (i := 1) (by omega)
  have C := fun q => older_any FL H n bx c M lo hi hn d top s [] _ (P0.out.drewN (q := q)) hT (by simpa using hs)
  have HC : Hid (∀ q, Calls _ _ _ _ _) := C
  have XX : Hid (XRow (w.alloc (.cells #[.int .u64 lo, .int .u64 hi] 55)) bx n top) := X0
  have BX : Hid (BoxIs (w.alloc (.cells #[.int .u64 lo, .int .u64 hi] 55)) w.heap.size lo hi) := B0
  clear C X0 B0 hX hR ho hT
  go_enter Try.func21, Try.ntmps21
  go_wp2_with fail
  go_region_held3 (fun w' => w'.cell? ⟨bx, 1, none⟩ = some (.int .i32 top) ∧ w'.cell? ⟨w.heap.size, 0, none⟩ = some (.int .u64 lo) ∧ w'.cell? ⟨w.heap.size, 1, none⟩ = some (.int .u64 hi))
    (go_keep)
    ((go_at_call 24; refine (HC.out 1).mono ?_; rintro e w1 ⟨rfl, o1, f1⟩; have y0 : w1.cell? ⟨bx, 1, none⟩ = some (.int .i32 top) := World.rowIs.cell (row_fr (row_drewN (q := 1) XX.out) (by decide) (by omega) f1) (i := 1) (by omega); have y1 : w1.cell? ⟨w.heap.size, 0, none⟩ = some (.int .u64 lo) := World.rowIs.cell (row_fr (row_drewN (q := 1) BX.out) (by decide) (by omega) f1) (i := 0) (by omega); have y2 : w1.cell? ⟨w.heap.size, 1, none⟩ = some (.int .u64 hi) := World.rowIs.cell (row_fr (row_drewN (q := 1) BX.out) (by decide) (by omega) f1) (i := 1) (by omega)))
  go_wp2_with fail
  go_end0
  exact ⟨rfl, by simpa using o1, (F0.out.drewN (q := 1)).trans f1⟩

set_option maxHeartbeats 1000000 in
theorem zzEach_any (FL H : Nat → Int) (n bx d : Nat) (M : Nat → Nat → Int) (lo hi top : Int) (s : List Nat) (w : World) (hn : n ≤ 4096) (hX : XRow w bx n top) (hR : TRow w (bx + 1) n M)
    (hT : Tree FL H n M d top s) (hs : s.length ≤ 4096) :
    Calls Try.prog 17 #[.pointer (some ⟨bx, 0, none⟩), .int .u64 lo, .int .u64 hi] w
      fun e w' => ∃ v, e = .returned v ∧ w'.ownsRow (w.heap.size + 1) 3 1 v (fnd FL H lo hi s).length (intsV (fnd FL H lo hi s)) ∧ Below w.heap.size w w' := by
  have hl := World.rowIs.lt hR
  have ho : OutIs (w.alloc (.cells #[.slice none 0 0] 28)) w.heap.size [] := ⟨.slice none 0 0, heap_alloc_new _ _, World.ownsRow_nil _ _ _ _⟩
  have C := each_any FL H n bx w.heap.size d M lo hi top s (w.alloc (.cells #[.slice none 0 0] 28)) hn (World.rowIs.alloc hX _) (World.rowIs.alloc hR _) ho hl hT hs
  have HC : Hid (Calls _ _ _ _ _) := C
  clear C ho hT hX hR
  go_enter Try.func17, Try.ntmps17
  go_wp2_with (go_at_call 21; refine (HC.out).mono ?_; rintro e w1 ⟨rfl, ⟨v, hv, hown⟩, f1⟩; have cv := cell_of_one hv)
  go_ret
  exact ⟨v, rfl, hown, ((Below.refl _ _).alloc (Nat.le_refl _) _).trans f1.below⟩

/-- A slice's cells, where it has any. -/
def IntsAt (w : World) (p : Option Addr) (m : Nat) (z : Nat → Int) : Prop := 0 < m → ∃ g, p = some ⟨g, 0, none⟩ ∧ ∀ i, i < m → w.cell? ⟨g, i, none⟩ = some (.int .i64 (z i))

set_option maxHeartbeats 1000000 in
theorem eq_any (p q : Option Addr) (m c1 c2 : Nat) (z : Nat → Int) (w : World) (hm : m ≤ 4096) (h1 : Hid (IntsAt w p m z)) (h2 : Hid (IntsAt w q m z)) :
    Calls Try.prog 18 #[.slice p m c1, .slice q m c2] w fun e w' => e = .returned (.bool true) ∧ ∃ n, w' = w.drewN n := by
  have e0 : ((m : Int) != (m : Int)) = false := by simp
  go_enter Try.func18, Try.ntmps18
  go_wp2
  go_loopw [5] (fun i wr => ∃ k r : Nat, k ≤ m ∧ i = .int .i64 k ∧ wr = w.drewN r) (fun i _ => m - (intOf i).toNat)
  case atStart => exact ⟨0, 0, Nat.zero_le _, rfl, rfl⟩
  case round =>
    obtain ⟨k, r, hk, rfl, rfl⟩ := hrel
    by_cases hlt : k < m
    · obtain ⟨g1, rfl, d1⟩ := h1.out (by omega)
      obtain ⟨g2, rfl, d2⟩ := h2.out (by omega)
      have x1 := d1 k hlt
      have x2 := d2 k hlt
      have kn : (k : Int) < (m : Int) := by omega
      have ez : ((z k : Int) != (z k : Int)) = false := by simp
      clear d1 d2
      go_wp2
      go_quiet (fail)
      go_wp2
      go_roundw
      case rel => exact ⟨k + 1, _, by omega, by go_num, rfl⟩
      case measure => simp [intOf]; omega
    · go_wp2
      go_ret
      exact ⟨rfl, r, rfl⟩
end Go.Proofs.Qxb6609258a
