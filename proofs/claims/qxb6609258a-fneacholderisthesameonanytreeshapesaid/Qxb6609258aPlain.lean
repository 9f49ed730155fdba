/-
  THE PLAIN LAW: an insertion sort of indices; search trees over a sorted list of indices; what the search finds. No Go in sight.
-/
namespace Go.Proofs.Qxb6609258a

/-! ### the order -/
def lessB (x y : Int) (i j : Nat) : Bool := decide (x < y ∨ (x = y ∧ i < j))

/-- x put in at place k. -/
def insAt (l : List Nat) (k x : Nat) : List Nat := l.take k ++ x :: l.drop k
theorem insAt_length (l : List Nat) (k x : Nat) : (insAt l k x).length = l.length + 1 := by simp [insAt]; omega
theorem insAt_end (l : List Nat) (x : Nat) : insAt l l.length x = l ++ [x] := by simp [insAt]
theorem insAt_perm (l : List Nat) (k x : Nat) : (insAt l k x).Perm (x :: l) := by
  unfold insAt
  refine List.perm_middle.trans ?_
  rw [List.take_append_drop]
theorem insAt_at (l : List Nat) (k x : Nat) (hk : k ≤ l.length) (j : Nat) :
    (insAt l k x).getD j 0 = if j < k then l.getD j 0 else if j = k then x else l.getD (j - 1) 0 := by
  unfold insAt
  simp only [List.getD_eq_getElem?_getD, List.getElem?_append, List.length_take, List.getElem?_take, List.getElem?_cons, List.getElem?_drop, Nat.min_eq_left hk]
  by_cases h1 : j < k
  · simp [h1]
  · by_cases h2 : j = k
    · simp [h2]
    · have h3 : ¬ j - k = 0 := by omega
      have h4 : k + (j - k - 1) = j - 1 := by omega
      simp [h1, h2, h3, h4]
/-- The round of the inner loop: places k and k + 1 are exchanged. -/
theorem insAt_swap (l : List Nat) (k x : Nat) (hk : k + 1 ≤ l.length) (j : Nat) :
    (if j = k then x else if j = k + 1 then l.getD k 0 else (insAt l (k + 1) x).getD j 0) = (insAt l k x).getD j 0 := by
  rw [insAt_at l k x (by omega), insAt_at l (k + 1) x hk]
  by_cases h1 : j = k
  · subst h1; simp
  · by_cases h2 : j = k + 1
    · subst h2
      rw [if_neg h1, if_pos rfl, if_neg (by omega), if_neg h1]; simp
    · by_cases h3 : j < k
      · rw [if_neg h1, if_neg h2, if_pos h3, if_pos (by omega)]
      · rw [if_neg h1, if_neg h2, if_neg h3, if_neg h1, if_neg (by omega), if_neg h2]

/-- Sorted by H. -/
def Sorted (H : Nat → Int) (l : List Nat) : Prop := l.Pairwise fun a b => H a ≤ H b
theorem sorted_ins (H : Nat → Int) (l : List Nat) (k x : Nat) (hk : k ≤ l.length) (hs : Sorted H l)
    (hr : ∀ j, k ≤ j → j < l.length → H x ≤ H (l.getD j 0)) (hl : k = 0 ∨ H (l.getD (k - 1) 0) ≤ H x) : Sorted H (insAt l k x) := by
  have hs' : (l.take k ++ l.drop k).Pairwise fun a b => H a ≤ H b := by rw [List.take_append_drop]; exact hs
  rw [List.pairwise_append] at hs'
  obtain ⟨p1, p2, p3⟩ := hs'
  have q2 : ∀ b ∈ l.drop k, H x ≤ H b := by
    intro b hb
    obtain ⟨j, hj, rfl⟩ := List.mem_iff_getElem.1 hb
    simp only [List.length_drop] at hj
    have := hr (k + j) (by omega) (by omega)
    rw [List.getElem_drop]
    simpa [List.getD_eq_getElem?_getD, List.getElem?_eq_getElem (by omega : k + j < l.length)] using this
  have q1 : ∀ a ∈ l.take k, H a ≤ H x := by
    intro a ha
    rcases hl with h0 | hl
    · subst h0; simp at ha
    · obtain ⟨j, hj, rfl⟩ := List.mem_iff_getElem.1 ha
      simp only [List.length_take] at hj
      rw [List.getElem_take]
      have e : l.getD (k - 1) 0 = l[k - 1]'(by omega) := by simp [List.getD_eq_getElem?_getD, List.getElem?_eq_getElem (by omega : k - 1 < l.length)]
      rw [e] at hl
      by_cases hjk : j = k - 1
      · subst hjk; exact hl
      · have := (List.pairwise_iff_getElem.1 hs) j (k - 1) (by omega) (by omega) (by omega)
        omega
  unfold Sorted insAt
  rw [List.pairwise_append]
  refine ⟨p1, ?_, ?_⟩
  · rw [List.pairwise_cons]; exact ⟨q2, p2⟩
  · intro a ha b hb
    rw [List.mem_cons] at hb
    rcases hb with rfl | hb
    · exact q1 a ha
    · exact p3 a ha b hb

/-! ### trees: N k c: field c of node k: 0 floor, 1 highest, 2 lowest floor, 3 highest floor, 4 left, 5 right, 6 parent -/
/-- t tops a tree (no deeper than the first number) whose nodes, from left to right, are s. -/
def Tree (FL H : Nat → Int) (n : Nat) (N : Nat → Nat → Int) : Nat → Int → List Nat → Prop
  | 0, t, s => t = -1 ∧ s = []
  | d + 1, t, s => (t = -1 ∧ s = []) ∨ ∃ (k : Nat) (s1 s2 : List Nat), t = (k : Int) ∧ k < n ∧ s = s1 ++ k :: s2 ∧ N k 0 = FL k ∧ N k 1 = H k ∧ Tree FL H n N d (N k 4) s1 ∧ Tree FL H n N d (N k 5) s2 ∧ (∀ j ∈ s, FL j ≤ N k 3) ∧ (∀ j ∈ s2, H k ≤ H j)

theorem tree_congr {FL H : Nat → Int} {n : Nat} {N N' : Nat → Nat → Int} (d : Nat) : ∀ (t : Int) (s : List Nat), (∀ j ∈ s, ∀ c, N' j c = N j c) → Tree FL H n N d t s → Tree FL H n N' d t s := by
  induction d with
  | zero => intro t s _ h; unfold Tree at h ⊢; exact h
  | succ d ih =>
    intro t s he h
    rcases h with h | ⟨k, s1, s2, ht, hk, hs, h0, h1, hl, hr, hf, hh⟩
    · exact .inl h
    · have hek : ∀ c, N' k c = N k c := he k (by rw [hs]; simp)
      refine .inr ⟨k, s1, s2, ht, hk, hs, by rw [hek]; exact h0, by rw [hek]; exact h1, ?_, ?_, fun j hj => by rw [hek]; exact hf j hj, hh⟩
      · rw [hek]; exact ih _ _ (fun j hj => he j (by rw [hs]; simp [hj])) hl
      · rw [hek]; exact ih _ _ (fun j hj => he j (by rw [hs]; simp [hj])) hr
theorem tree_top {FL H : Nat → Int} {n : Nat} {N : Nat → Nat → Int} {d : Nat} {t : Int} {s : List Nat} (h : Tree FL H n N d t s) :
    (t = -1 ∧ s = []) ∨ ∃ k : Nat, t = (k : Int) ∧ k < n ∧ k ∈ s ∧ ∀ j ∈ s, FL j ≤ N k 3 := by
  cases d with
  | zero => exact .inl h
  | succ d =>
    rcases h with h | ⟨k, s1, s2, ht, hk, hs, h0, h1, hl, hr, hf, hh⟩
    · exact .inl h
    · exact .inr ⟨k, ht, hk, by rw [hs]; simp, hf⟩
theorem tree_mono {FL H : Nat → Int} {n : Nat} {N : Nat → Nat → Int} (d : Nat) : ∀ (t : Int) (s : List Nat), Tree FL H n N d t s → Tree FL H n N (d + 1) t s := by
  induction d with
  | zero => intro t s h; unfold Tree at h ⊢; exact Or.inl h
  | succ d ih =>
    intro t s h
    rcases h with h | ⟨k, s1, s2, ht, hk, hs, h0, h1, hl, hr, hf, hh⟩
    · exact .inl h
    · exact .inr ⟨k, s1, s2, ht, hk, hs, h0, h1, ih _ _ hl, ih _ _ hr, hf, hh⟩

/-! ### what the search finds -/
def fnd (FL H : Nat → Int) (lo hi : Int) (s : List Nat) : List Nat := s.filter fun k => decide (H k < hi) && decide (lo < FL k)
theorem fnd_none {FL H : Nat → Int} {lo hi : Int} {s : List Nat} (h : ∀ j ∈ s, FL j ≤ lo) : fnd FL H lo hi s = [] := by
  unfold fnd
  rw [List.filter_eq_nil_iff]
  intro j hj
  have := h j hj
  simp; omega
theorem fnd_high {FL H : Nat → Int} {lo hi : Int} {s : List Nat} (h : ∀ j ∈ s, hi ≤ H j) : fnd FL H lo hi s = [] := by
  unfold fnd
  rw [List.filter_eq_nil_iff]
  intro j hj
  have := h j hj
  simp; omega
theorem fnd_node {FL H : Nat → Int} {lo hi : Int} {k : Nat} {s1 s2 : List Nat} :
    fnd FL H lo hi (s1 ++ k :: s2) = fnd FL H lo hi s1 ++ ((if H k < hi ∧ lo < FL k then [k] else []) ++ fnd FL H lo hi s2) := by
  unfold fnd
  rw [List.filter_append, List.filter_cons]
  by_cases h : H k < hi ∧ lo < FL k
  · simp [h.1, h.2]
  · rw [if_neg h, if_neg (by simpa using h)]; simp
theorem fnd_perm {FL H : Nat → Int} {lo hi : Int} {s s' : List Nat} (h : s.Perm s') : (fnd FL H lo hi s).length = (fnd FL H lo hi s').length := (h.filter _).length_eq
theorem fnd_snoc {FL H : Nat → Int} {lo hi : Int} {k : Nat} {s : List Nat} :
    (fnd FL H lo hi (s ++ [k])).length = (fnd FL H lo hi s).length + if H k < hi ∧ lo < FL k then 1 else 0 := by
  rw [fnd_node]
  by_cases h : H k < hi ∧ lo < FL k
  · simp [h, fnd]
  · rw [if_neg h, if_neg h]; simp [fnd]

/-! ### the part of a list from lo up to hi -/
def part (l : List Nat) (lo hi : Nat) : List Nat := (l.drop lo).take (hi - lo)
theorem part_nil (l : List Nat) {lo hi : Nat} (h : hi ≤ lo) : part l lo hi = [] := by unfold part; rw [show hi - lo = 0 from by omega]; rfl
theorem part_split (l : List Nat) {lo mid hi : Nat} (h1 : lo ≤ mid) (h2 : mid < hi) (h3 : hi ≤ l.length) : part l lo hi = part l lo mid ++ l.getD mid 0 :: part l (mid + 1) hi := by
  unfold part
  have e1 : hi - lo = (mid - lo) + (hi - mid) := by omega
  rw [e1, List.take_add, List.drop_drop, show lo + (mid - lo) = mid from by omega, List.drop_eq_getElem_cons (by omega : mid < l.length)]
  rw [show hi - mid = (hi - (mid + 1)) + 1 from by omega, List.take_succ_cons]
  simp [List.getD_eq_getElem?_getD, List.getElem?_eq_getElem (by omega : mid < l.length)]
theorem part_all (l : List Nat) : part l 0 l.length = l := by simp [part]
theorem part_sub (l : List Nat) (lo hi : Nat) : (part l lo hi).Sublist l := (List.take_sublist _ _).trans (List.drop_sublist _ _)
end Go.Proofs.Qxb6609258a
