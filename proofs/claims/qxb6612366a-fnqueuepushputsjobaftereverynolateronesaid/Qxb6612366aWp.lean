/-
  WALKS (p): push.
-/
import Derived.Test.Qxb6612366aWk
namespace Go.Proofs.Qxb6612366a
open Go.RowKit

def insAt {α : Type} (l : List α) (p : Nat) (x : α) : List α := l.take p ++ x :: l.drop p
theorem insAt_map {α β : Type} (f : α → β) (l : List α) (p : Nat) (x : α) : (insAt l p x).map f = (l.map f).take p ++ f x :: (l.map f).drop p := by
  simp [insAt, List.map_take, List.map_drop]

/-- All that push stands on: the queue in block bq, its row v of the jobs' pointers (the list of their blocks: L), the job J; T: when the job in a block was created. -/
structure PushAt (w : World) (bq base : Nat) (st : ByteArray) (v : Value) (h n : Nat) (L : List Nat) (T : Nat → Int) (J : Nat) : Prop where
  q : QAt w bq st v (h : Int)
  own : w.ownsRow base 29 1 v n (L.map jp)
  job : JobAt w J (T J)
  jobs : ∀ b ∈ L, JobAt w b (T b)
  base_le : base ≤ w.heap.size
theorem own_below {w w' : World} {base n : Nat} {v : Value} {xs : List Value} (h : w.ownsRow base 29 1 v n xs) (hb : Below w.heap.size w w') : w'.ownsRow base 29 1 v n xs :=
  h.kept (row := none) ⟨hb.os, hb.tape, hb.output, hb.size, fun k hk _ => hb.block k hk⟩ (by cases v.ownBlock <;> simp)
theorem QAt.of_block {w w' : World} {bq : Nat} {st : ByteArray} {v : Value} {h : Int} (q : QAt w bq st v h) (e : w'.heap[bq]? = w.heap[bq]?) : QAt w' bq st v h := by
  unfold QAt at q ⊢
  rw [e, q]
theorem PushAt.below {w w' : World} {bq base h n J : Nat} {st : ByteArray} {v : Value} {L : List Nat} {T : Nat → Int} (P : PushAt w bq base st v h n L T J) (hb : Below w.heap.size w w') : PushAt w' bq base st v h n L T J :=
  ⟨P.q.of_block (hb.block _ P.q.lt), own_below P.own hb, P.job.below hb, fun b hL => (P.jobs b hL).below hb, Nat.le_trans P.base_le hb.size⟩
theorem PushAt.ne {w : World} {bq base h n J : Nat} {st : ByteArray} {v : Value} {L : List Nat} {T : Nat → Int} (P : PushAt w bq base st v h n L T J) : v.ownBlock ≠ some bq := by
  have q := P.q
  unfold QAt at q
  rcases P.own.2 with ⟨rfl, _⟩ | ⟨g, cap, cur, rfl, hb, hg, _⟩
  · simp [Value.ownBlock]
  · intro e
    simp [Value.ownBlock] at e
    subst e
    rw [hg] at q
    simp at q
/-- Where the new job goes, counted from the head on. -/
def Where (h n : Nat) (L : List Nat) (T : Nat → Int) (J r : Nat) : Prop :=
  r ≤ n - h ∧ (∀ k, k < r → T (L.getD (h + k) 0) ≤ T J) ∧ (∀ k, r ≤ k → k < n - h → T J < T (L.getD (h + k) 0))
/-- Oldest first from the head on. -/
def Aged (h n : Nat) (L : List Nat) (T : Nat → Int) : Prop := ∀ i k, h ≤ i → i ≤ k → k < n → T (L.getD i 0) ≤ T (L.getD k 0)

theorem age_push {w : World} {bq base h n J g cap : Nat} {st : ByteArray} {L : List Nat} {T : Nat → Int} (P : PushAt w bq base st (.slice (some ⟨g, 0, none⟩) n cap) h n L T J) (hA : Aged h n L T) (hn : n ≤ 1000000) (hh : h ≤ n) :
    Calls Try.prog 22 #[.slice (some ⟨g, h, none⟩) (n - h) (cap - h), .pointer (some ⟨J, 0, none⟩)] w fun e w' => ∃ r : Nat, e = .returned (.int .i64 (r : Int)) ∧ Where h n L T J r ∧ Below w.heap.size w w' := by
  have hl : L.length = n := by simpa using P.own.1
  refine (age_any g h (n - h) (cap - h) J (fun k => L.getD (h + k) 0) (fun k => T (L.getD (h + k) 0)) (T J) w (by omega) P.job ?_ (fun i k h1 h2 => hA _ _ (by omega) (by omega) (by omega))).mono ?_
  · intro k hk
    have hm : L[h + k]? = some (L.getD (h + k) 0) := by
      rw [List.getD_eq_getElem?_getD, List.getElem?_eq_getElem (by omega)]; rfl
    refine ⟨?_, P.jobs _ (List.mem_of_getElem? hm)⟩
    have := P.own.cells (g := g) rfl (h + k) (jp (L.getD (h + k) 0)) (by rw [List.getElem?_map, hm]; rfl)
    rw [Addr.add_lit] at this
    simpa [jp] using this
  · rintro e w' ⟨r, h1, h2, h3, h4, h5⟩
    exact ⟨r, h1, ⟨h2, h3, h4⟩, h5⟩
theorem age_push0 {h n J : Nat} {L : List Nat} {T : Nat → Int} (a : Option Addr) (cp : Nat) (w : World) (hh : n - h = 0) :
    Calls Try.prog 22 #[.slice a 0 cp, .pointer (some ⟨J, 0, none⟩)] w fun e w' => ∃ r : Nat, e = .returned (.int .i64 (r : Int)) ∧ Where h n L T J r ∧ Below w.heap.size w w' := by
  refine (age_none a cp J w).mono ?_
  rintro e w' ⟨rfl, h5⟩
  exact ⟨0, rfl, ⟨by omega, fun k hk => absurd hk (by omega), fun k _ hk => absurd hk (by omega)⟩, h5⟩

/-- What push leaves. -/
structure Pushed (w w' : World) (bq base : Nat) (st : ByteArray) (v v' : Value) (h n : Nat) (L : List Nat) (J p : Nat) : Prop where
  q : QAt w' bq st v' (h : Int)
  own : w'.ownsRow base 29 1 v' (n + 1) ((insAt L p J).map jp)
  os : w'.os = w.os
  tape : w'.tape = w.tape
  output : w'.output = w.output
  size : w.heap.size ≤ w'.heap.size
  block : ∀ k, k < w.heap.size → k ≠ bq → some k ≠ v.ownBlock → w'.heap[k]? = w.heap[k]?

theorem push_done {w W w2 : World} {bq base h n J p g2 cap2 : Nat} {st : ByteArray} {v : Value} {L : List Nat} {T : Nat → Int} (hb : Below w.heap.size w W) (P : PushAt w bq base st v h n L T J)
    (own2 : w2.ownsRow base 29 1 (.slice (some ⟨g2, 0, none⟩) (n + 1) cap2) (n + 1) ((L.map jp).take p ++ jp J :: (L.map jp).drop p)) (gr2 : W.grownBy w2 v.ownBlock) :
    Pushed w (w2.setCell ⟨bq, 1, none⟩ (.slice (some ⟨g2, 0, none⟩) (n + 1) cap2)) bq base st v (.slice (some ⟨g2, 0, none⟩) (n + 1) cap2) h n L J p := by
  have PW := P.below hb
  have q2 : QAt w2 bq st v (h : Int) := PW.q.of_block (gr2.block bq PW.q.lt (fun e => PW.ne e.symm))
  have hne : g2 ≠ bq := by
    rintro rfl
    rcases own2.2 with ⟨e, _⟩ | ⟨g, cap, cur, e, _, hg, _⟩
    · cases e
    · simp at e
      obtain ⟨rfl, rfl⟩ := e
      unfold QAt at q2
      rw [hg] at q2
      simp at q2
  refine ⟨q2.set _, ?_, gr2.os.trans hb.os, gr2.tape.trans hb.tape, gr2.output.trans hb.output, ?_, ?_⟩
  · rw [insAt_map]
    refine own2.kept (row := some bq) ⟨rfl, rfl, rfl, by simp [World.setCell], fun k _ hk => Below.heap_setCell _ _ _ _ (by simpa using hk)⟩ (.inr (by simpa [Value.ownBlock] using hne))
  · have := gr2.size; have := hb.size; simp [World.setCell]; omega
  · intro k hk h1 h2
    exact (Below.heap_setCell _ _ _ _ h1).trans ((gr2.block k (Nat.lt_of_lt_of_le hk hb.size) h2).trans (hb.block k hk))
end Go.Proofs.Qxb6612366a
