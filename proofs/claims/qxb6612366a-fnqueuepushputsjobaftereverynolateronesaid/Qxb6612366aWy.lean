/-
  WALKS (y): FnQueuePushPutsJobAfterEveryNoLaterOne: what stands ahead of the push and behind it.
-/
import Derived.Test.Qxb6612366aWx
namespace Go.Proofs.Qxb6612366a
open Go.RowKit

/-- When the job in block b was created: b1Jobs' jobs, and the new one (in block J) at c. -/
def TJ (s : Nat) (z : Nat → Int) (J : Nat) (c : Int) (b : Nat) : Int := if b = J then c else TT s z b
def JL (s n : Nat) : List Nat := (List.range n).map (jb s)
theorem JL_length (s n : Nat) : (JL s n).length = n := by simp [JL]
theorem JL_get {s n i : Nat} (h : i < n) : (JL s n)[i]? = some (jb s i) := by simp [JL, h]
theorem JL_getD {s n i : Nat} (h : i < n) : (JL s n).getD i 0 = jb s i := by rw [List.getD_eq_getElem?_getD, JL_get h]; rfl
theorem TJ_jb {s n J i : Nat} {z : Nat → Int} {c : Int} (hi : i < n) (hJ : s + 4 * n + 1 < J) : TJ s z J c (jb s i) = z i := by
  unfold TJ
  rw [if_neg (by unfold jb; omega), TT_jb]
theorem TJ_J {s J : Nat} {z : Nat → Int} {c : Int} : TJ s z J c J = c := if_pos rfl
/-- Oldest first from h on. -/
def SrtFrom (h n : Nat) (z : Nat → Int) : Prop := ∀ i, h < i → i < n → z (i - 1) ≤ z i
theorem srtFrom_le {h n : Nat} {z : Nat → Int} (hs : SrtFrom h n z) (i : Nat) (hi : h ≤ i) : ∀ d, i + d < n → z i ≤ z (i + d)
  | 0, _ => Int.le_refl _
  | d + 1, hd => by
    have h1 := srtFrom_le hs i hi d (by omega)
    have h2 := hs (i + (d + 1)) (by omega) hd
    rw [show i + (d + 1) - 1 = i + d by omega] at h2
    omega

/-- All that stands ahead of the push; bh: the held row's block. -/
structure Set3 (w : World) (s n h bh bq : Nat) (z : Nat → Int) (st : ByteArray) : Prop where
  row : w.rowIs s 29 n (fun i => jp (jb s i))
  jobs : ∀ i, i < n → JobAt w (jb s i) (z i)
  held : w.heap[bh]? = some (.cells ((JL s n).map jp).toArray 29 (0, 0))
  q : QAt w bq st (.slice (some ⟨bh, 0, none⟩) n n) (h : Int)
  hbh : bh = s + 4 * n + 1
  hbq : bq = s + 4 * n + 2
theorem Set3.below {w w' : World} {s n h bh bq : Nat} {z : Nat → Int} {st : ByteArray} (S : Set3 w s n h bh bq z st) (hb : Below w.heap.size w w') : Set3 w' s n h bh bq z st :=
  ⟨row_below S.row hb S.row.lt, fun i hi => (S.jobs i hi).below hb, (hb.block _ (Array.getElem?_eq_some_iff.1 S.held).1).trans S.held, S.q.of_block (hb.block _ S.q.lt), S.hbh, S.hbq⟩

theorem set3_push {w : World} {s n h bh bq J : Nat} {z : Nat → Int} {st : ByteArray} {c : Int} (S : Set3 w s n h bh bq z st) (hJ : JobAt w J c) (hJb : bq < J) (hn : n ≤ 65536) :
    PushAt w bq bh st (.slice (some ⟨bh, 0, none⟩) n n) h n (JL s n) (TJ s z J c) J := by
  refine ⟨S.q, ⟨by simp [JL_length], .inr ⟨bh, n, _, rfl, Nat.le_refl _, S.held, Nat.le_refl _, by unfold maxLen; omega, by simp [JL_length], ?_⟩⟩, by rw [TJ_J]; exact hJ, ?_, by have := S.q.lt; have := S.hbq; have := S.hbh; omega⟩
  · rw [List.take_of_length_le (by simp [JL_length])]
  · intro b hb
    obtain ⟨i, hi, rfl⟩ := List.mem_map.1 hb
    have hi' := List.mem_range.1 hi
    rw [TJ_jb hi' (by have := S.hbq; omega)]
    exact S.jobs i hi'
theorem set3_aged {s n h J : Nat} {z : Nat → Int} {c : Int} (hs : SrtFrom h n z) (hJ : s + 4 * n + 1 < J) : Aged h n (JL s n) (TJ s z J c) := by
  intro i k h1 h2 h3
  rw [JL_getD (by omega), JL_getD h3, TJ_jb (n := n) (by omega) hJ, TJ_jb (n := n) h3 hJ]
  have := srtFrom_le hs i h1 (k - i) (by omega)
  rwa [show i + (k - i) = k by omega] at this
theorem set3_where {s n h J r : Nat} {z : Nat → Int} {c : Int} (hJ : s + 4 * n + 1 < J) (hh : h ≤ n) (hw : Where h n (JL s n) (TJ s z J c) J r) :
    h + r ≤ n ∧ (∀ k, h ≤ k → k < h + r → z k ≤ c) ∧ (∀ k, h + r ≤ k → k < n → c < z k) := by
  obtain ⟨h1, h2, h3⟩ := hw
  refine ⟨by omega, fun k hk hk2 => ?_, fun k hk hk2 => ?_⟩
  · have := h2 (k - h) (by omega)
    rw [show h + (k - h) = k by omega, JL_getD (by omega), TJ_jb (n := n) (by omega) hJ, TJ_J] at this
    exact this
  · have := h3 (k - h) (by omega) (by omega)
    rw [show h + (k - h) = k by omega, JL_getD hk2, TJ_jb (n := n) hk2 hJ, TJ_J] at this
    exact this

/-- Behind the push: the row that the queue holds. -/
theorem set3_done {w w' : World} {s n h bh bq J p : Nat} {z : Nat → Int} {st : ByteArray} {v' : Value} (S : Set3 w s n h bh bq z st) (hp : p ≤ n)
    (P : Pushed w w' bq bh st (.slice (some ⟨bh, 0, none⟩) n n) v' h n (JL s n) J p) :
    w'.rowIs s 29 n (fun i => jp (jb s i)) ∧ Below s w w' ∧
    ∃ g cap, v' = .slice (some ⟨g, 0, none⟩) (n + 1) cap ∧ QAt w' bq st (.slice (some ⟨g, 0, none⟩) (n + 1) cap) (h : Int) ∧
      ∀ i, i ≤ n → w'.cell? ⟨g, i, none⟩ = some (if i < p then jp (jb s i) else if i = p then jp J else jp (jb s (i - 1))) := by
  have e1 := S.hbh
  have e2 := S.hbq
  refine ⟨S.row.of_block (P.block s S.row.lt (by omega) (by simp [Value.ownBlock]; omega)), ⟨P.os, P.tape, P.output, P.size, fun k hk => P.block k (by have := S.row.lt; omega) (by omega) (by simp [Value.ownBlock]; omega)⟩, ?_⟩
  rcases P.own.2 with ⟨rfl, h0⟩ | ⟨g, cap, cur, rfl, hb, hg, hle, hm, hs, ht⟩
  · omega
  · refine ⟨g, cap, rfl, P.q, fun i hi => ?_⟩
    have := P.own.cells (g := g) rfl i (if i < p then jp (jb s i) else if i = p then jp J else jp (jb s (i - 1))) ?_
    · rw [Addr.add_lit, Nat.zero_add] at this
      exact this
    · rw [List.getElem?_map, insAt_get _ _ _ (by rw [JL_length]; exact hp)]
      by_cases h1 : i < p
      · rw [if_pos h1, if_pos h1, JL_get (by omega)]; rfl
      · rw [if_neg h1, if_neg h1]
        by_cases h2 : i = p
        · rw [if_pos h2, if_pos h2]; rfl
        · rw [if_neg h2, if_neg h2, JL_get (by omega)]; rfl
end Go.Proofs.Qxb6612366a
