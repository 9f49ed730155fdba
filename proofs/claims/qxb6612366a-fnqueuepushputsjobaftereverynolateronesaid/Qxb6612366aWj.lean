/-
  WALKS (j): the bounds, b1Jobs, the queue's small functions.
-/
import Derived.Test.Qxb6612366aWt
import Derived.Deep.OwnRows
import Derived.Deep.Draws
import Derived.Deep.QuietTactic
import Derived.BigQuiet
import Derived.Deep.DeepCutAuto
import Derived.Test.Qxb6612366aWin2
namespace Go.Proofs.Qxb6612366a
open Go.RowKit

theorem row_below {B b t n : Nat} {w w' : World} {f : Nat → Value} (h : w.rowIs b t n f) (hb : Below B w w') (hlt : b < B) : w'.rowIs b t n f := h.of_block (hb.block b hlt)
theorem row_drewN {b t n q : Nat} {w : World} {f : Nat → Value} (h : w.rowIs b t n f) : (w.drewN q).rowIs b t n f := h
theorem below_drewN {B q : Nat} {a w : World} (h : Below B a w) : Below B a (w.drewN q) := ⟨h.os, h.tape, h.output, h.size, h.block⟩

/-- Block b is a job that was created at x. -/
def JobAt (w : World) (b : Nat) (x : Int) : Prop :=
  ∃ cs : Array Value, w.heap[b]? = some (.cells cs 51 (0, 0)) ∧ cs[8]? = some (.int .u64 (x % 1000000000)) ∧ cs[9]? = some (.int .i64 (x / 1000000000)) ∧ cs[10]? = some (.pointer none)
theorem JobAt.lt {w : World} {b : Nat} {x : Int} (h : JobAt w b x) : b < w.heap.size := by
  obtain ⟨cs, h, _⟩ := h
  exact (Array.getElem?_eq_some_iff.1 h).1
theorem JobAt.of_block {w w' : World} {b : Nat} {x : Int} (h : JobAt w b x) (e : w'.heap[b]? = w.heap[b]?) : JobAt w' b x := by
  obtain ⟨cs, h, r⟩ := h
  exact ⟨cs, e.trans h, r⟩
theorem JobAt.cells {w : World} {b : Nat} {x : Int} (h : JobAt w b x) :
    w.cell? ⟨b, 8, none⟩ = some (.int .u64 (x % 1000000000)) ∧ w.cell? ⟨b, 9, none⟩ = some (.int .i64 (x / 1000000000)) ∧ w.cell? ⟨b, 10, none⟩ = some (.pointer none) := by
  obtain ⟨cs, h, h8, h9, h10⟩ := h
  simp [World.cell?, h, h8, h9, h10]

/-- The pointer to the job in block b. -/
def jp (b : Nat) : Value := .pointer (some ⟨b, 0, none⟩)
/-- The blocks of b1Jobs' jobs: the row lies in block s. -/
def jb (s k : Nat) : Nat := s + 4 * k + 4

/-- What is known of the argument's cells. -/
def InAt (w : World) (at0 : Option Addr) (n : Nat) (z : Nat → Int) : Prop :=
  0 < n → ∃ b off, at0 = some ⟨b, off, none⟩ ∧ b < w.heap.size ∧ ∀ i, i < n → w.cell? ⟨b, off + i, none⟩ = some (.int .i64 (z i))
def Fits (n : Nat) (z : Nat → Int) : Prop := ∀ i, i < n → -9223372036854775808 ≤ z i ∧ z i ≤ 9223372036854775807
theorem InAt.below {w w' : World} {at0 : Option Addr} {n : Nat} {z : Nat → Int} (h : InAt w at0 n z) (hb : Below w.heap.size w w') : InAt w' at0 n z := by
  intro h0
  obtain ⟨b, off, e, hlt, hc⟩ := h h0
  exact ⟨b, off, e, Nat.lt_of_lt_of_le hlt hb.size, fun i hi => (hb.cell (p := ⟨b, off + i, none⟩) hlt).trans (hc i hi)⟩

theorem set_alloc_new (w : World) (a : Addr) (v : Value) (o : Obj) {i : Nat} (h : i = w.heap.size) : ((w.setCell a v).alloc o).heap[i]? = some o := by
  have := heap_alloc_new (w.setCell a v) o
  rw [h]
  simpa using this
theorem set_alloc_old (w : World) (a : Addr) (v : Value) (o : Obj) {i : Nat} (h : i < w.heap.size) (hne : i ≠ a.block) : ((w.setCell a v).alloc o).heap[i]? = w.heap[i]? :=
  (Below.heap_alloc _ _ _ (by simpa using h)).trans (Below.heap_setCell _ _ _ _ hne)

set_option maxRecDepth 100000 in
set_option maxHeartbeats 400000 in
theorem jobs_any (at0 : Option Addr) (n c : Nat) (z : Nat → Int) (w : World) (hn : n ≤ 65536) (hat : Hid (InAt w at0 n z)) (hz : Hid (Fits n z)) :
    Calls Try.prog 6 #[.string ⟨#[]⟩, .string ⟨#[]⟩, .slice at0 n c] w fun e w' => e = .returned (.slice (some ⟨w.heap.size, 0, none⟩) n n) ∧
      w'.rowIs w.heap.size 29 n (fun i => jp (jb w.heap.size i)) ∧ (∀ i, i < n → JobAt w' (jb w.heap.size i) (z i)) ∧ Below w.heap.size w w' ∧ w'.heap.size = w.heap.size + 4 * n + 1 := by
  have hmk := run_make_row' (P := Try.prog) 24 29 (.pointer none) 8 Try.underlying24 Try.info29 rfl .i64 .i64 n (by omega) (by omega)
  go_enter Try.func6, Try.ntmps6
  go_wp2
  go_loopw [8] (fun i wr => ∃ k : Nat, k ≤ n ∧ i = .int .i64 k ∧ wr.rowIs w.heap.size 29 n (fun i => if i < k then jp (jb w.heap.size i) else .pointer none) ∧ Hid (∀ i, i < k → JobAt wr (jb w.heap.size i) (z i)) ∧ Below w.heap.size w wr ∧ wr.heap.size = w.heap.size + 4 * k + 1)
    (fun i _ => n - (intOf i).toNat)
  case atStart => exact ⟨0, Nat.zero_le _, rfl, World.rowIs_made _ _ _ _, fun i h => absurd h (by omega), (Below.refl _ _).alloc (Nat.le_refl _) _, by simp⟩
  case round =>
    obtain ⟨k, hk, rfl, h1, hj, hbel, hsz⟩ := hrel
    by_cases hlt : k < n
    · obtain ⟨b, off, rfl, hb, hcells⟩ := hat.out (by omega)
      have c1 := (hbel.cell (p := ⟨b, off + k, none⟩) hb).trans (hcells k hlt)
      have hzk := hz.out k hlt
      have C : Hid (∀ w, Calls Try.prog 8 _ w _) := fun w => timeAt_any (z k) w hzk.1 hzk.2
      obtain ⟨zk, hzk'⟩ : ∃ x, z k = x := ⟨_, rfl⟩
      rw [hzk'] at c1 C
      have HZ : Hid (z k = zk) := hzk'
      clear hcells hzk hzk'
      obtain ⟨R, hR⟩ : ∃ r, zk % 1000000000 = r := ⟨_, rfl⟩
      obtain ⟨Q, hQ⟩ : ∃ r, zk / 1000000000 = r := ⟨_, rfl⟩
      have HR : Hid (zk % 1000000000 = R) := hR
      have HQ : Hid (zk / 1000000000 = Q) := hQ
      rw [hR, hQ] at C
      clear hR hQ
      go_wp2_with fail
      refine (C.out wr).mono ?_
      rintro e w1 ⟨rfl, o1, o2, o3, hw1⟩
      have hb1 : Below wr.heap.size wr w1 := by rw [hw1]; exact (((Below.refl _ _).alloc (Nat.le_refl _) _).alloc (by simp) _).alloc (by simp; omega) _
      have hs1 : w1.heap.size = w.heap.size + 4 * k + 4 := by rw [hw1]; simp; omega
      clear hw1
      have h1' := row_below h1 hb1 h1.lt
      have d1 := h1'.cell hlt
      have f1 := h1'.frozen k
      have hl1 := h1'.lt
      have HJ : Hid (∀ i, i < k → JobAt w1 (jb w.heap.size i) (z i)) := fun i hi => (hj.out i hi).of_block (hb1.block _ (hj.out i hi).lt)
      have HB : Hid (Below w.heap.size w w1) := hbel.trans (hb1.mono (by omega))
      have HS : Hid (wr.heap.size = w.heap.size + 4 * k + 1) := hsz
      have HS1 : Hid (w1.heap.size = w.heap.size + 4 * k + 4) := hs1
      have kn : (k : Int) < (n : Int) := by omega
      clear hj hbel hb1 h1 c1 hsz hs1
      go_wp2_with fail
      go_roundw
      case rel =>
        refine ⟨k + 1, by omega, by go_num, ?_, ?_, ?_, ?_⟩
        · refine ((h1'.set k _).alloc _).congr fun i hi => ?_
          by_cases e : i = k
          · subst e; simp [jp, jb, HS1.out]
          · rw [if_neg e]
            by_cases e2 : i < k
            · rw [if_pos e2, if_pos (by omega)]
            · rw [if_neg e2, if_neg (by omega)]
        · intro i hi
          by_cases e : i = k
          · subst e
            refine ⟨_, set_alloc_new _ _ _ _ (by rw [HS1.out]; unfold jb; omega), ?_, ?_, ?_⟩
            · rw [HZ.out, HR.out]; rfl
            · rw [HZ.out, HQ.out]; rfl
            · rfl
          · have := HJ.out i (by omega)
            exact this.of_block (set_alloc_old _ _ _ _ this.lt (by show jb w.heap.size i ≠ w.heap.size; unfold jb; omega))
        · exact (HB.out.setCell (p := ⟨w.heap.size, k, none⟩) (Nat.le_refl _) _).alloc (by simp; rw [HS1.out]; omega) _
        · simp; rw [HS1.out]; omega
      case measure => simp [intOf]; omega
    · go_wp2
      go_ret
      have hkn : k = n := by omega
      subst hkn
      exact ⟨rfl, h1.congr fun i hi => if_pos hi, hj.out, hbel, hsz⟩
end Go.Proofs.Qxb6612366a
