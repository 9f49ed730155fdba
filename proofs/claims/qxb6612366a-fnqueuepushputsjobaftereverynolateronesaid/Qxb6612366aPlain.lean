/-
  THE PLAIN LAW: insertion behind every element that is no later keeps a list stably sorted; where an element of a stably sorted list of all numbers below n stands.
-/
import Derived.Test.Qxb6612366aWs
namespace Go.Proofs.Qxb6612366a

/-- Sorted by z; those of one z by their number. -/
def Bef (z : Nat → Int) (a b : Nat) : Prop := z a < z b ∨ z a = z b ∧ a < b
def Srt (z : Nat → Int) (l : List Nat) : Prop := l.Pairwise (Bef z)

theorem mem_getD {l : List Nat} {j : Nat} (h : j < l.length) : l.getD j 0 = l[j] := by
  rw [List.getD_eq_getElem?_getD, List.getElem?_eq_getElem h]; rfl

theorem srt_ins (z : Nat → Int) (l : List Nat) (k r : Nat) (hl : l.Perm (List.range k)) (hs : Srt z l) (h1 : ∀ j, j < r → z (l.getD j 0) ≤ z k) (h2 : ∀ j, r ≤ j → j < l.length → z k < z (l.getD j 0)) :
    Srt z (insAt l r k) := by
  have hpre : ∀ a ∈ l.take r, z a ≤ z k ∧ a < k := by
    intro a ha
    obtain ⟨j, hj, rfl⟩ := List.mem_take_iff_getElem.1 ha
    have hj2 : j < l.length := by omega
    have := h1 j (by omega)
    rw [mem_getD hj2] at this
    exact ⟨this, List.mem_range.1 (hl.mem_iff.1 (List.getElem_mem _))⟩
  have hpost : ∀ b ∈ l.drop r, z k < z b := by
    intro b hb
    obtain ⟨j, hj, rfl⟩ := List.mem_drop_iff_getElem.1 hb
    have := h2 (r + j) (by omega) (by omega)
    rw [mem_getD (by omega)] at this
    exact this
  unfold Srt insAt
  rw [List.pairwise_append]
  refine ⟨hs.sublist (List.take_sublist _ _), List.pairwise_cons.2 ⟨fun b hb => .inl (hpost b hb), hs.sublist (List.drop_sublist _ _)⟩, ?_⟩
  intro a ha b hb
  have ha' := hpre a ha
  rcases List.mem_cons.1 hb with rfl | hb
  · unfold Bef; omega
  · have := hpost b hb
    exact .inl (by omega)

theorem perm_ins {l : List Nat} {k : Nat} (r : Nat) (h : l.Perm (List.range k)) : (insAt l r k).Perm (List.range (k + 1)) := by
  rw [List.range_succ]
  have h1 : (insAt l r k).Perm (k :: l) := by
    unfold insAt
    refine List.perm_middle.trans (List.Perm.cons k ?_)
    rw [List.take_append_drop]
  exact h1.trans ((List.Perm.cons k h).trans (List.perm_append_singleton k (List.range k)).symm)

theorem srt_le {z : Nat → Int} {l : List Nat} (hs : Srt z l) {i k : Nat} (hik : i ≤ k) (hk : k < l.length) : z (l.getD i 0) ≤ z (l.getD k 0) := by
  by_cases e : i = k
  · subst e; exact Int.le_refl _
  · have := List.pairwise_iff_getElem.1 hs i k (by omega) hk (by omega)
    rw [mem_getD hk, mem_getD (by omega)]
    unfold Bef at this
    omega

/-- How many numbers below n come before i. -/
def befB (z : Nat → Int) (i k : Nat) : Bool := decide (z k < z i) || (decide (z k = z i) && decide (k < i))
def rk (z : Nat → Int) (i n : Nat) : Nat := (List.range n).countP (befB z i)
theorem rk_succ (z : Nat → Int) (i k : Nat) : rk z i (k + 1) = rk z i k + (if befB z i k = true then 1 else 0) := by
  unfold rk
  rw [List.range_succ, List.countP_append]
  simp [List.countP_cons]
theorem rk_le (z : Nat → Int) (i k : Nat) : rk z i k ≤ k := by
  have := List.countP_le_length (p := befB z i) (l := List.range k)
  simpa [rk] using this
theorem bef_iff (z : Nat → Int) (i k : Nat) : befB z i k = true ↔ Bef z k i := by
  simp [befB, Bef]

theorem rank_at {z : Nat → Int} {l : List Nat} {n i : Nat} (hl : l.Perm (List.range n)) (hs : Srt z l) (hi : i < n) : l[rk z i n]? = some i := by
  have hm : i ∈ l := hl.mem_iff.2 (List.mem_range.2 hi)
  obtain ⟨l1, l2, rfl⟩ := List.append_of_mem hm
  have hr : rk z i n = l1.length := by
    unfold rk
    rw [← hl.countP_eq]
    unfold Srt at hs
    rw [List.pairwise_append] at hs
    obtain ⟨_, h2, h3⟩ := hs
    have h4 := (List.pairwise_cons.1 h2).1
    have e1 : l1.countP (befB z i) = l1.length := by
      rw [List.countP_eq_length]
      intro a ha
      exact (bef_iff z i a).2 (h3 a ha i (by simp))
    have e2 : l2.countP (befB z i) = 0 := by
      rw [List.countP_eq_zero]
      intro b hb hx
      have h5 := h4 b hb
      have h6 := (bef_iff z i b).1 hx
      unfold Bef at h5 h6
      omega
    have e3 : befB z i i = false := by simp [befB]
    rw [List.countP_append, List.countP_cons, e1, e2, e3]
    simp
  rw [hr]
  simp
end Go.Proofs.Qxb6612366a
