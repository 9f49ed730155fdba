/-
  THE PLAIN LAW: runs of ASCII digits in a list of bytes. No Go in sight.
-/
namespace Go.Proofs.Qxb6612721a

def dg (c : UInt8) : Bool := decide (48 ≤ (c.toNat : Int)) && decide ((c.toNat : Int) ≤ 57)
def runN : List UInt8 → Nat
  | [] => 0
  | c :: r => if dg c then runN r + 1 else 0
def skipN (l : List UInt8) (i : Nat) : Nat := i + runN (l.drop i)

theorem runN_le (l : List UInt8) : runN l ≤ l.length := by
  induction l with
  | nil => simp [runN]
  | cons c r ih => simp only [runN]; split <;> simp <;> omega

theorem runN_append (x y : List UInt8) : runN (x ++ y) = if runN x = x.length then x.length + runN y else runN x := by
  induction x with
  | nil => simp [runN]
  | cons c r ih =>
    simp only [List.cons_append, runN]
    have := runN_le r
    by_cases h : dg c
    · simp only [h, if_true, ih, List.length_cons]
      by_cases h2 : runN r = r.length
      · simp [h2]; omega
      · rw [if_neg h2, if_neg (by omega)]
    · simp [h]

theorem runN_at (l : List UInt8) (t : Nat) (ht : t < runN l) (hl : t < l.length) : dg l[t] = true := by
  induction l generalizing t with
  | nil => simp at hl
  | cons c r ih =>
    simp only [runN] at ht
    by_cases h : dg c
    · simp only [h, if_true] at ht
      cases t with
      | zero => simpa using h
      | succ t => simpa using ih t (by omega) (by simpa using hl)
    · simp [h] at ht

theorem runN_stop (l : List UInt8) (h : runN l < l.length) : dg l[runN l] = false := by
  induction l with
  | nil => simp at h
  | cons c r ih =>
    by_cases hc : dg c
    · have e : runN (c :: r) = runN r + 1 := by simp [runN, hc]
      have h' : runN r < r.length := by simp [e] at h; omega
      have := ih h'
      simp only [e, List.getElem_cons_succ]
      exact this
    · have e : runN (c :: r) = 0 := by simp [runN, hc]
      simp only [e, List.getElem_cons_zero]
      simpa using hc

theorem skip_ge (l : List UInt8) (i : Nat) : i ≤ skipN l i := by unfold skipN; omega
theorem skip_end (l : List UInt8) (i : Nat) (h : l.length ≤ i) : skipN l i = i := by
  unfold skipN; rw [List.drop_of_length_le h]; simp [runN]
theorem skip_le (l : List UInt8) (i : Nat) (h : i ≤ l.length) : skipN l i ≤ l.length := by
  unfold skipN; have := runN_le (l.drop i); simp at this; omega
theorem skip_hit (l : List UInt8) (i : Nat) (h : i < l.length) (hd : dg l[i] = true) : skipN l i = skipN l (i + 1) := by
  unfold skipN; rw [List.drop_eq_getElem_cons h]; simp [runN, hd]; omega
theorem skip_miss (l : List UInt8) (i : Nat) (h : i < l.length) (hd : dg l[i] = false) : skipN l i = i := by
  unfold skipN; rw [List.drop_eq_getElem_cons h]; simp [runN, hd]
theorem skip_between (l : List UInt8) (i t : Nat) (h : i ≤ t) (ht : t < skipN l i) (hl : t < l.length) : dg l[t] = true := by
  unfold skipN at ht
  have := runN_at (l.drop i) (t - i) (by omega) (by simp; omega)
  simp only [List.getElem_drop] at this
  have e : i + (t - i) = t := by omega
  simpa only [e] using this
theorem skip_stop (l : List UInt8) (i : Nat) (h : skipN l i < l.length) : dg l[skipN l i] = false := by
  have h' := h
  unfold skipN at h'
  have := runN_stop (l.drop i) (by simp; omega)
  simp only [List.getElem_drop] at this
  exact this

theorem skip_join (a b : List UInt8) (i : Nat) :
    skipN (a ++ b) i = if a.length ≤ skipN a i then a.length + skipN b (skipN a i - a.length) else skipN a i := by
  have hle := runN_le (a.drop i)
  rw [List.length_drop] at hle
  unfold skipN
  rw [List.drop_append, runN_append, List.length_drop]
  by_cases hi : a.length ≤ i
  · rw [if_pos (by omega : a.length ≤ i + runN (a.drop i))]
    have h0 : runN (a.drop i) = 0 := by omega
    rw [h0, if_pos (by omega), Nat.add_zero]
    omega
  · by_cases hr : runN (a.drop i) = a.length - i
    · rw [if_pos hr, hr, if_pos (by omega)]
      have e1 : i - a.length = 0 := by omega
      have e2 : i + (a.length - i) - a.length = 0 := by omega
      rw [e1, e2]; omega
    · rw [if_neg hr, if_neg (by omega)]

/-! ### over byte arrays, as the walk shows them -/
def skipB (s : ByteArray) (i : Nat) : Nat := skipN s.data.toList i
theorem at_eq (s : ByteArray) (k : Nat) (h : k < s.size) : s[k] = s.data.toList[k]'(by simpa using h) := by
  simp [ByteArray.getElem_eq_getElem_data]
theorem skipB_ge (s : ByteArray) (i : Nat) : i ≤ skipB s i := skip_ge _ _
theorem skipB_end (s : ByteArray) (i : Nat) (h : s.size ≤ i) : skipB s i = i := skip_end _ _ (by simpa using h)
theorem skipB_le (s : ByteArray) (i : Nat) (h : i ≤ s.size) : skipB s i ≤ s.size := by unfold skipB; simpa using skip_le s.data.toList i (by simpa using h)
theorem skipB_hit (s : ByteArray) (i : Nat) (h : i < s.size) (hd : dg s[i] = true) : skipB s i = skipB s (i + 1) :=
  skip_hit _ _ (by simpa using h) (by rw [← at_eq s i h]; exact hd)
theorem skipB_miss (s : ByteArray) (i : Nat) (h : i < s.size) (hd : dg s[i] = false) : skipB s i = i :=
  skip_miss _ _ (by simpa using h) (by rw [← at_eq s i h]; exact hd)
theorem skipB_between (s : ByteArray) (i t : Nat) (h : i ≤ t) (ht : t < skipB s i) (hl : t < s.size) : dg s[t] = true := by
  rw [at_eq s t hl]; exact skip_between _ _ _ h ht (by simpa using hl)
theorem skipB_stop (s : ByteArray) (i r : Nat) (hr : r = skipB s i) (h : r < s.size) : dg s[r] = false := by
  subst hr
  rw [at_eq s _ h]; exact skip_stop s.data.toList i (by unfold skipB at h; simpa using h)
theorem skipB_join (a b : ByteArray) (i : Nat) :
    skipB (a ++ b) i = if a.size ≤ skipB a i then a.size + skipB b (skipB a i - a.size) else skipB a i := by
  unfold skipB
  have e : (a ++ b).data.toList = a.data.toList ++ b.data.toList := by simp
  rw [e, skip_join]; simp
end Go.Proofs.Qxb6612721a
