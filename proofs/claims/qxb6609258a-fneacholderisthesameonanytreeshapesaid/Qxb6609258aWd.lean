/-
  WALKS (d): zzBalanced, zzChain.
-/
import Derived.Test.Qxb6609258aWc
namespace Go.Proofs.Qxb6609258a
open Go.RowKit

def zero53 : Array Value := #[.int .u64 0, .int .u64 0, .int .u64 0, .int .u64 0, .int .i32 0, .int .i32 0, .int .i32 0]
def made53 (n : Nat) : Obj := .cells (madeCells zero53 (n * 7)) 53
theorem Try.info53 : (Try.prog.info? 53).map (fun i => (i.zero, i.size, i.bytes)) = some (some (.agg zero53), 7, 48) := by kernel_rfl
theorem make53 (n : Nat) (hn : n ≤ 4096) (w : World) :
    (Instr.makeSlice 30 (.int .i64 (n : Int)) (.int .i64 (n : Int))).run Try.prog w = .ok (.slice (some ⟨w.heap.size, 0, none⟩) n n) (w.alloc (made53 n)) := by
  obtain ⟨i, hi, hz⟩ := Option.map_eq_some_iff.1 Try.info53
  simp only [Prod.mk.injEq] at hz
  obtain ⟨h1, h2, h3⟩ := hz
  have hr := run_make (P := Try.prog) w 30 53 i _ Try.underlying30 hi h1 .i64 .i64 n n (by omega) (Int.le_refl _) (by rw [h3]; omega) (by omega)
  simp only [Int.toNat_natCast, h2] at hr
  exact hr
theorem nrow_made (w : World) (n : Nat) : NRow (w.alloc (made53 n)) w.heap.size n (fun _ _ => 0) := by
  refine ⟨_, Deep.blk_alloc_new _ _, size_madeCells _ _, fun i hi => ?_⟩
  have h7 : i % 7 < 7 := Nat.mod_lt _ (by decide)
  simp only [madeCells, nodeV]
  rcases (by omega : i % 7 = 0 ∨ i % 7 = 1 ∨ i % 7 = 2 ∨ i % 7 = 3 ∨ i % 7 = 4 ∨ i % 7 = 5 ∨ i % 7 = 6) with h | h | h | h | h | h | h <;> simp [zero53, hi, h]

set_option maxRecDepth 100000 in
set_option maxHeartbeats 1000000 in
theorem balanced_any (FL H : Nat → Int) (l : List Nat) (n bf bh bp : Nat) (w : World) (hn : n ≤ 4096) (hlen : l.length = n) (hperm : l.Perm (List.range n)) (hsort : Sorted H l)
    (hf : w.rowIs bf 38 n (fun i => .int .u64 (FL i))) (hh : w.rowIs bh 38 n (fun i => .int .u64 (H i))) (hp : PRow w bp n l) :
    Calls Try.prog 10 #[.slice (some ⟨bf, 0, none⟩) n n, .slice (some ⟨bh, 0, none⟩) n n, .slice (some ⟨bp, 0, none⟩) n n] w
      fun e w' => ∃ (r : Int) (N : Nat → Nat → Int), e = .returned (.tuple #[.slice (some ⟨w.heap.size, 0, none⟩) n n, .int .i32 r, .slice (some ⟨w.heap.size + 1, 0, none⟩) n n, .slice (some ⟨w.heap.size + 2, 0, none⟩) n n]) ∧
        NRow w' w.heap.size n N ∧ Below w.heap.size w w' ∧ Tree FL H n N n r l := by
  have hmk := make53 n hn
  have hmi := run_make_row' (P := Try.prog) 28 3 (.int .i64 0) 8 Try.underlying28 Try.info3 rfl .i64 .i64 n (by omega) (by omega)
  have hl := World.rowIs.lt hp
  obtain ⟨o1, ho1⟩ : ∃ o, Obj.cells (madeCells #[Value.int .i64 0] n) 3 = o := ⟨_, rfl⟩
  have hB : Bld FL H l n w.heap.size bf bh bp (w.heap.size + 1) (w.heap.size + 2) (((w.alloc (made53 n)).alloc o1).alloc o1) (fun _ _ => 0) := by
    subst ho1
    refine ⟨World.rowIs.alloc (World.rowIs.alloc (nrow_made w n) _) _, ((hf.alloc _).alloc _).alloc _, ((hh.alloc _).alloc _).alloc _, World.rowIs.alloc (World.rowIs.alloc (World.rowIs.alloc hp _) _) _, ⟨fun _ => 0, ?_⟩, ⟨fun _ => 0, ?_⟩⟩
    · simpa using (World.rowIs_made (w.alloc (made53 n)) (.int .i64 0) n 3).alloc (.cells (madeCells #[Value.int .i64 0] n) 3)
    · simpa using World.rowIs_made ((w.alloc (made53 n)).alloc (.cells (madeCells #[Value.int .i64 0] n) 3)) (.int .i64 0) n 3
  have C := build_any FL H l n w.heap.size bf bh bp (w.heap.size + 1) (w.heap.size + 2) hn hlen hperm hsort (by omega) (by omega) (by omega) n 0 n 0 n (-1) _ _ rfl rfl (Nat.zero_le _) (Nat.le_refl _) (by omega) hB
  have HC : Hid (Calls _ _ _ _ _) := C
  rw [ho1] at hmi
  clear C hB ho1
  go_enter Try.func10, Try.ntmps10
  go_wp2_with fail
  refine (HC.out).mono ?_
  rintro e w2 ⟨r, N, rfl, hB2, k2, _, t2⟩
  go_wp2_with fail
  refine bodyPost_ret (v := .tuple #[.slice (some ⟨w.heap.size, 0, none⟩) n n, .int .i32 r, .slice (some ⟨w.heap.size + 1, 0, none⟩) n n, .slice (some ⟨w.heap.size + 2, 0, none⟩) n n]) (by simp [results, Try.results10, go_sem]) rfl ⟨r, N, rfl, hB2.hn, ?_, ?_⟩
  · refine Below.trans ?_ (k2.below (B := w.heap.size) (by simp; omega) (by simp))
    exact (((Below.refl _ _).alloc (Nat.le_refl _) _).alloc (by simp) _).alloc (by simp; omega) _
  · have e := part_all l
    rw [hlen] at e
    rw [e] at t2
    exact t2
end Go.Proofs.Qxb6609258a
