/-
  WALKS (u): FnQueuePushKeepsPendingJobsSortedStably.
-/
import Derived.Test.Qxb6612366aPlain
namespace Go.Proofs.Qxb6612366a
open Go.RowKit

theorem bytes1_no (a : Option Addr) (n c : Nat) (w : World) (h : 1048576 < n) :
    Calls Try.prog 14 #[.slice a n c] w fun e w' => e = .returned (.bool false) ∧ w' = w := by
  go_enter Try.func14, Try.ntmps14
  go_wp2
  go_ret
  exact ⟨rfl, rfl⟩
theorem bytes1_yes (a : Option Addr) (n c : Nat) (w : World) (h : n ≤ 1048576) :
    Calls Try.prog 14 #[.slice a n c] w fun e w' => e = .returned (.bool true) ∧ w' = w := by
  have h1 : ¬ (1048576 : Int) < (n : Int) := by omega
  go_enter Try.func14, Try.ntmps14
  go_wp2
  go_ret
  exact ⟨rfl, rfl⟩

/-- When the job of b1Jobs in block b was created. -/
def TT (s : Nat) (z : Nat → Int) (b : Nat) : Int := z ((b - s - 4) / 4)
theorem TT_jb (s : Nat) (z : Nat → Int) (k : Nat) : TT s z (jb s k) = z k := by
  unfold TT jb
  congr 1
  omega
theorem insAt_mapN (f : Nat → Nat) (l : List Nat) (p x : Nat) : insAt (l.map f) p (f x) = (insAt l p x).map f := by
  simp [insAt, List.map_take, List.map_drop]

/-- The queue bq holds the list l of b1Jobs' jobs. -/
structure Held (w : World) (bq s : Nat) (l : List Nat) (v : Value) : Prop where
  q : QAt w bq ⟨#[]⟩ v 0
  own : w.ownsRow (bq + 1) 29 1 v l.length ((l.map (jb s)).map jp)
/-- What b1Jobs has made lies below bq. -/
structure Made (w : World) (bq s n : Nat) (z : Nat → Int) : Prop where
  row : w.rowIs s 29 n (fun i => jp (jb s i))
  jobs : ∀ i, i < n → JobAt w (jb s i) (z i)
  lt : bq = s + 4 * n + 1
theorem Made.below {w w' : World} {bq s n : Nat} {z : Nat → Int} (h : Made w bq s n z) (hb : Below bq w w') : Made w' bq s n z :=
  ⟨row_below h.row hb (by have := h.lt; omega), fun i hi => (h.jobs i hi).of_block (hb.block _ (by have := h.lt; unfold jb; omega)), h.lt⟩

theorem held_pushAt {w : World} {bq s n k : Nat} {z : Nat → Int} {l : List Nat} {v : Value} (hh : Held w bq s l v) (hm : Made w bq s n z) (hl : l.Perm (List.range k)) (hk : k < n) :
    PushAt w bq (bq + 1) ⟨#[]⟩ v 0 k (l.map (jb s)) (TT s z) (jb s k) := by
  have hlen : l.length = k := by simpa using hl.length_eq
  refine ⟨hh.q, by have := hh.own; rw [hlen] at this; exact this, by rw [TT_jb]; exact hm.jobs k hk, ?_, hh.q.lt⟩
  intro b hb
  obtain ⟨i, hi, rfl⟩ := List.mem_map.1 hb
  rw [TT_jb]
  exact hm.jobs i (by have := List.mem_range.1 (hl.mem_iff.1 hi); omega)
theorem getD_map_jb {l : List Nat} {s i : Nat} (h : i < l.length) : (l.map (jb s)).getD i 0 = jb s (l.getD i 0) := by
  rw [List.getD_eq_getElem?_getD, List.getElem?_map, mem_getD h, List.getElem?_eq_getElem h]; rfl
theorem held_aged {s k : Nat} {z : Nat → Int} {l : List Nat} (hlen : l.length = k) (hs : Srt z l) : Aged 0 k (l.map (jb s)) (TT s z) := by
  intro i j _ h2 h3
  rw [getD_map_jb (by omega), getD_map_jb (by omega), TT_jb, TT_jb]
  exact srt_le hs h2 (by omega)

/-- Behind a push: the list with k put in. -/
theorem held_pushed {w w' : World} {bq s k r : Nat} {z : Nat → Int} {l : List Nat} {v v' : Value} (hh : Held w bq s l v) (hl : l.Perm (List.range k)) (hs : Srt z l)
    (hw : Where 0 k (l.map (jb s)) (TT s z) (jb s k) r) (hp : Pushed w w' bq (bq + 1) ⟨#[]⟩ v v' 0 k (l.map (jb s)) (jb s k) (0 + r)) :
    Held w' bq s (insAt l r k) v' ∧ (insAt l r k).Perm (List.range (k + 1)) ∧ Srt z (insAt l r k) ∧ Below bq w w' := by
  have hlen : l.length = k := by simpa using hl.length_eq
  obtain ⟨h1, h2, h3⟩ := hw
  refine ⟨⟨hp.q, ?_⟩, perm_ins r hl, ?_, ⟨hp.os, hp.tape, hp.output, hp.size, ?_⟩⟩
  · have := hp.own
    rw [Nat.zero_add, insAt_mapN] at this
    rw [insAt_length, hlen]
    exact this
  · refine srt_ins z l k r hl hs (fun j hj => ?_) (fun j hj hj2 => ?_)
    · have := h2 j hj
      rw [Nat.zero_add, getD_map_jb (by omega), TT_jb, TT_jb] at this
      exact this
    · have := h3 j hj (by omega)
      rw [Nat.zero_add, getD_map_jb (by omega), TT_jb, TT_jb] at this
      exact this
  · intro b hb
    refine hp.block b (by have := hh.q.lt; omega) (by omega) ?_
    intro e
    have := (hh.own.lt b e.symm).1
    omega

theorem held_got {w : World} {bq s : Nat} {l : List Nat} {v : Value} (hh : Held w bq s l v) :
    ∃ a cap, v = .slice a l.length cap ∧ (0 < l.length → ∃ g, a = some ⟨g, 0, none⟩ ∧ ∀ j x, l[j]? = some x → w.cell? ⟨g, j, none⟩ = some (.pointer (some ⟨jb s x, 0, none⟩))) := by
  rcases hh.own.2 with ⟨rfl, h0⟩ | ⟨g, cap, cur, rfl, hb, hg, hle, hm, hs, ht⟩
  · exact ⟨none, 0, by rw [h0], fun h => absurd h (by omega)⟩
  · refine ⟨_, cap, rfl, fun _ => ⟨g, rfl, fun j x hx => ?_⟩⟩
    have := hh.own.cells (g := g) rfl j (jp (jb s x)) (by rw [List.getElem?_map, List.getElem?_map, hx]; rfl)
    rw [Addr.add_lit] at this
    simpa [jp] using this
theorem befB_lt {z : Nat → Int} {i k : Nat} (h : z k < z i) : befB z i k = true := by simp [befB, h]
theorem befB_eq {z : Nat → Int} {i k : Nat} (h : z k = z i) : befB z i k = decide (k < i) := by simp [befB, h]
theorem befB_gt {z : Nat → Int} {i k : Nat} (h : ¬ z k < z i) (h2 : ¬ z k = z i) : befB z i k = false := by simp [befB, h, h2]
end Go.Proofs.Qxb6612366a
