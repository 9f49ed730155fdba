/-
  WALKS (b): zzOrder.
-/
import Derived.Test.Qxb6609258aWa
namespace Go.Proofs.Qxb6609258a
open Go.RowKit

/-- The row of p: the list l, zeros behind it. -/
def PRow (w : World) (b n : Nat) (l : List Nat) : Prop := w.rowIs b 3 n (fun i => .int .i64 ((l.getD i 0 : Nat) : Int))
theorem PRow.cell {w : World} {b n : Nat} {l : List Nat} (h : PRow w b n l) {i : Nat} (hi : i < n) : w.cell? ⟨b, i, none⟩ = some (.int .i64 ((l.getD i 0 : Nat) : Int)) := World.rowIs.cell h hi
theorem PRow.push {w : World} {b n : Nat} {l : List Nat} (h : PRow w b n l) (x : Nat) : PRow (w.setCell ⟨b, l.length, none⟩ (.int .i64 (x : Int))) b n (l ++ [x]) := by
  refine (World.rowIs.set h l.length _).congr fun i _ => ?_
  by_cases e : i = l.length
  · subst e; simp
  · rw [if_neg e]
    by_cases e2 : i < l.length
    · simp [List.getElem?_append, e2]
    · have e3 : ¬ i - l.length = 0 := by omega
      simp [List.getElem?_append, e2, e3]
theorem PRow.swap {w : World} {b n : Nat} {l : List Nat} {k x : Nat} (h : PRow w b n (insAt l (k + 1) x)) (hk : k + 1 ≤ l.length) :
    PRow ((w.setCell ⟨b, k + 1, none⟩ (.int .i64 ((l.getD k 0 : Nat) : Int))).setCell ⟨b, k, none⟩ (.int .i64 (x : Int))) b n (insAt l k x) := by
  refine ((World.rowIs.set h (k + 1) _).set k _).congr fun i _ => ?_
  rw [← insAt_swap l k x hk i]
  by_cases e : i = k
  · simp [e]
  · by_cases e2 : i = k + 1
    · simp [e2]
    · simp [e, e2]

theorem order_start {w : World} {b n k : Nat} {l : List Nat} (h : PRow w b n l) (hl : l.length = k) : PRow (w.setCell ⟨b, k, none⟩ (.int .i64 (k : Int))) b n (insAt l k k) := by
  subst hl
  rw [insAt_end]; exact h.push _
theorem order_done {H : Nat → Int} {k j : Nat} {l : List Nat} (hlen : l.length = k) (hperm : l.Perm (List.range k)) (hs : Sorted H l) (hj : j ≤ k)
    (hr : ∀ i, j ≤ i → i < k → H k ≤ H (l.getD i 0)) (hl : j = 0 ∨ H (l.getD (j - 1) 0) ≤ H k) :
    (insAt l j k).length = k + 1 ∧ (insAt l j k).Perm (List.range (k + 1)) ∧ Sorted H (insAt l j k) := by
  refine ⟨by rw [insAt_length, hlen], ?_, sorted_ins H l j k (by omega) hs (fun i h1 h2 => hr i h1 (by omega)) hl⟩
  rw [List.range_succ]
  exact (insAt_perm l j k).trans ((List.Perm.cons k hperm).trans (List.perm_append_singleton k (List.range k)).symm)
theorem perm_lt {l : List Nat} {k m : Nat} (hlen : l.length = k) (hperm : l.Perm (List.range k)) (hm : m < k) : l.getD m 0 < k := by
  have h : l[m]'(by omega) ∈ List.range k := hperm.mem_iff.1 (List.getElem_mem _)
  simpa [List.getD_eq_getElem?_getD, List.getElem?_eq_getElem (by omega : m < l.length)] using h

set_option maxHeartbeats 1000000 in
theorem order_any (bh n : Nat) (H : Nat → Int) (w : World) (hn : n ≤ 4096) (hh : w.rowIs bh 38 n (fun i => .int .u64 (H i))) :
    Calls Try.prog 9 #[.slice (some ⟨bh, 0, none⟩) n n] w fun e w' => e = .returned (.slice (some ⟨w.heap.size, 0, none⟩) n n) ∧
      ∃ l : List Nat, PRow w' w.heap.size n l ∧ l.Perm (List.range n) ∧ Sorted H l ∧ Below w.heap.size w w' ∧ w'.heap.size = w.heap.size + 1 := by
  have hmk := run_make_row' (P := Try.prog) 28 3 (.int .i64 0) 8 Try.underlying28 Try.info3 rfl .i64 .i64 n (by omega) (by omega)
  have hbl := hh.lt
  go_enter Try.func9, Try.ntmps9
  go_wp2
  go_loopw [5, 6] (fun i _ wr => ∃ (k : Nat) (l : List Nat), k ≤ n ∧ i = .int .i64 k ∧ PRow wr w.heap.size n l ∧ Hid (l.length = k) ∧ Hid (l.Perm (List.range k)) ∧ Hid (Sorted H l) ∧ Below w.heap.size w wr ∧ wr.heap.size = w.heap.size + 1)
    (fun i _ _ => n - (intOf i).toNat)
  case atStart => exact ⟨0, [], Nat.zero_le _, rfl, by unfold PRow; simpa using World.rowIs_made w (.int .i64 0) n 3, rfl, List.Perm.refl _, List.Pairwise.nil, (Below.refl _ _).alloc (Nat.le_refl _) _, by simp⟩
  case round =>
    obtain ⟨k, l, hk, rfl, hp, hlen, hperm, hsort, hbel, hsz⟩ := hrel
    by_cases hlt : k < n
    · have d1 := hp.cell hlt
      have f1 := World.rowIs.frozen hp k
      have hst := order_start hp hlen.out
      have hb1 := hbel.setCell (p := ⟨w.heap.size, k, none⟩) (Nat.le_refl _) (.int .i64 (k : Int))
      go_wp2
      go_loopw [6] (fun kk wx => ∃ j : Nat, j ≤ k ∧ kk = .int .i64 j ∧ PRow wx w.heap.size n (insAt l j k) ∧ Hid (∀ i, j ≤ i → i < k → H k ≤ H (l.getD i 0)) ∧ Below w.heap.size w wx ∧ wx.heap.size = w.heap.size + 1)
        (fun kk _ => (intOf kk).toNat)
      case atStart => exact ⟨k, Nat.le_refl _, rfl, hst, fun i h1 h2 => absurd h2 (by omega), hb1, by simpa using hsz⟩
      case round =>
        clear hst hb1 d1 f1 hp hsz hbel
        obtain ⟨j, hj, rfl, hp, hrt, hbel, hsz⟩ := hrel
        have ck := (hbel.cell (p := ⟨bh, k, none⟩) hbl).trans (hh.cell hlt)
        by_cases hj0 : j = 0
        · have hd : decide (0 < j) = false := decide_eq_false (by omega)
          have D : Hid ((insAt l j k).length = k + 1 ∧ (insAt l j k).Perm (List.range (k + 1)) ∧ Sorted H (insAt l j k)) := order_done hlen.out hperm.out hsort.out hj hrt.out (.inl hj0)
          clear hj0
          go_wp2_with fail
          go_quiet (fail)
          go_wp2
          go_roundw
          case rel => exact ⟨k + 1, insAt l j k, by omega, by go_num, hp, D.out.1, D.out.2.1, D.out.2.2, below_drewN hbel, hsz⟩
          case measure => simp [intOf]; omega
        · obtain ⟨m, rfl⟩ : ∃ m, j = m + 1 := ⟨j - 1, by omega⟩
          clear hj0
          have hd : decide ((0 : Int) < (m : Int) + 1) = true := decide_eq_true (by omega)
          have hxk := perm_lt hlen.out hperm.out (m := m) (by omega)
          have c1 : wr.cell? ⟨w.heap.size, m + 1, none⟩ = some (.int .i64 (k : Int)) := by
            have := hp.cell (i := m + 1) (by omega)
            rw [insAt_at l (m + 1) k (by rw [hlen.out]; omega), if_neg (by omega), if_pos rfl] at this
            exact this
          have c0 : wr.cell? ⟨w.heap.size, m, none⟩ = some (.int .i64 ((l.getD m 0 : Nat) : Int)) := by
            have := hp.cell (i := m) (by omega)
            rw [insAt_at l (m + 1) k (by rw [hlen.out]; omega), if_pos (by omega)] at this
            exact this
          have hsw := hp.swap (by rw [hlen.out]; omega)
          have cx := (hbel.cell (p := ⟨bh, l.getD m 0, none⟩) hbl).trans (hh.cell (by omega))
          have f1 := World.rowIs.frozen hp (m + 1)
          have f0 := World.rowIs.frozen hp m
          obtain ⟨x, hx⟩ : ∃ x, l.getD m 0 = x := ⟨_, rfl⟩
          have HX : Hid (l.getD m 0 = x) := hx
          rw [hx] at c0 hsw cx hxk
          clear hx
          have b1 : (m : Int) + 1 < (n : Int) := by omega
          have b0 : (m : Int) < (n : Int) := by omega
          cases hb : lessB (H k) (H x) k x
          · have D : Hid ((insAt l (m + 1) k).length = k + 1 ∧ (insAt l (m + 1) k).Perm (List.range (k + 1)) ∧ Sorted H (insAt l (m + 1) k)) :=
              order_done hlen.out hperm.out hsort.out hj hrt.out (.inr (by rw [show m + 1 - 1 = m from rfl, HX.out]; simp [lessB] at hb; omega))
            go_wp2_with fail
            go_quiet ((go_at_call 13; exact Calls.quiet_of (less_any bh n k x _ _ hlt (by omega) _ ck cx)))
            go_wp2
            go_roundw
            case rel => exact ⟨k + 1, insAt l (m + 1) k, by omega, by go_num, hp, D.out.1, D.out.2.1, D.out.2.2, below_drewN hbel, hsz⟩
            case measure => simp [intOf]; omega
          · have hrt' : Hid (∀ i, m ≤ i → i < k → H k ≤ H (l.getD i 0)) := by
              intro i h1 h2
              by_cases e : i = m
              · subst e; rw [HX.out]; simp [lessB] at hb; omega
              · exact hrt.out i (by omega) h2
            go_wp2_with fail
            go_quiet ((go_at_call 13; exact Calls.quiet_of (less_any bh n k x _ _ hlt (by omega) _ ck cx)))
            go_wp2
            go_roundw
            case rel => exact ⟨m, by omega, by go_num, hsw, hrt', ((below_drewN hbel).setCell (Nat.le_refl _) _).setCell (Nat.le_refl _) _, by simpa using hsz⟩
            case measure => simp [intOf]
    · go_wp2
      go_ret
      exact ⟨rfl, l, hp, (by have : k = n := by omega
                             rw [this] at hperm; exact hperm.out), hsort.out, hbel, hsz⟩
end Go.Proofs.Qxb6609258a
