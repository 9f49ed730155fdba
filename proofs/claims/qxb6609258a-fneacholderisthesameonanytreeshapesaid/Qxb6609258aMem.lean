/-
  MEMORY: rows of the call's own, and what a call leaves as it was.
-/
import Derived.WalkKit
import Derived.Deep.OwnRows
import Derived.Deep.Draws
namespace Go.Proofs.Qxb6609258a
open Go.RowKit

theorem row_below {B b t n : Nat} {w w' : World} {f : Nat → Value} (h : w.rowIs b t n f) (hb : Below B w w') (hlt : b < B) : w'.rowIs b t n f := h.of_block (hb.block b hlt)
theorem row_drewN {b t n q : Nat} {w : World} {f : Nat → Value} (h : w.rowIs b t n f) : (w.drewN q).rowIs b t n f := h
theorem below_drewN {B q : Nat} {a w : World} (h : Below B a w) : Below B a (w.drewN q) := ⟨h.os, h.tape, h.output, h.size, h.block⟩

/-- One cell more of a row is filled. -/
theorem row_fill {wr : World} {b t n k : Nat} {kd : IntKind} {F : Nat → Int} (h : wr.rowIs b t n (fun i => .int kd (if i < k then F i else 0))) :
    (wr.setCell ⟨b, k, none⟩ (.int kd (F k))).rowIs b t n (fun i => .int kd (if i < k + 1 then F i else 0)) := by
  refine (h.set k _).congr fun i _ => ?_
  by_cases e : i = k
  · subst e; simp
  · rw [if_neg e]
    by_cases e2 : i < k
    · rw [if_pos e2, if_pos (by omega)]
    · rw [if_neg e2, if_neg (by omega)]
theorem row_filled {wr : World} {b t n k : Nat} {kd : IntKind} {F : Nat → Int} (h : wr.rowIs b t n (fun i => .int kd (if i < k then F i else 0))) (hk : n ≤ k) :
    wr.rowIs b t n (fun i => .int kd (F i)) := h.congr fun i hi => by rw [if_pos (by omega)]

/-- All old blocks but the listed ones are as they were. -/
structure Keep (S : List Nat) (w w' : World) : Prop where
  os : w'.os = w.os
  tape : w'.tape = w.tape
  output : w'.output = w.output
  size : w.heap.size ≤ w'.heap.size
  block : ∀ k, k < w.heap.size → k ∉ S → w'.heap[k]? = w.heap[k]?
theorem Keep.refl (S : List Nat) (w : World) : Keep S w w := ⟨rfl, rfl, rfl, Nat.le_refl _, fun _ _ _ => rfl⟩
theorem Keep.trans {S : List Nat} {a b c : World} (h : Keep S a b) (k : Keep S b c) : Keep S a c :=
  ⟨k.os.trans h.os, k.tape.trans h.tape, k.output.trans h.output, Nat.le_trans h.size k.size, fun i hi hs => (k.block i (Nat.lt_of_lt_of_le hi h.size) hs).trans (h.block i hi hs)⟩
theorem Keep.drewN {S : List Nat} {a w : World} {q : Nat} (h : Keep S a w) : Keep S a (w.drewN q) := ⟨h.os, h.tape, h.output, h.size, h.block⟩
theorem Keep.drew {S : List Nat} {a w : World} (h : Keep S a w) : Keep S a w.drew := ⟨h.os, h.tape, h.output, h.size, h.block⟩
theorem Keep.setCell {S : List Nat} {a w : World} (h : Keep S a w) {p : Addr} (hp : p.block ∈ S) (u : Value) : Keep S a (w.setCell p u) :=
  h.trans ⟨rfl, rfl, rfl, by simp [World.setCell], fun k _ hs => Below.heap_setCell _ _ _ _ (fun e => hs (e ▸ hp))⟩
theorem Keep.alloc {S : List Nat} {a w : World} (h : Keep S a w) (o : Obj) : Keep S a (w.alloc o) :=
  h.trans ⟨rfl, rfl, rfl, by simp, fun k hk _ => Below.heap_alloc _ _ _ hk⟩
theorem Keep.row {S : List Nat} {w w' : World} {b t n : Nat} {f : Nat → Value} (h : Keep S w w') (hr : w.rowIs b t n f) (hs : b ∉ S) : w'.rowIs b t n f := hr.of_block (h.block b hr.lt hs)
theorem Keep.below {S : List Nat} {w w' : World} {B : Nat} (h : Keep S w w') (hB : B ≤ w.heap.size) (hs : ∀ s ∈ S, B ≤ s) : Below B w w' :=
  ⟨h.os, h.tape, h.output, h.size, fun k hk => h.block k (by omega) (fun hm => by have := hs k hm; omega)⟩
theorem Below.keep {w w' : World} (h : Below w.heap.size w w') : Keep [] w w' := ⟨h.os, h.tape, h.output, h.size, fun k hk _ => h.block k hk⟩
end Go.Proofs.Qxb6609258a
