/-
  WALKS (s): push, all cases in one; ZZb1QueuePush; two like pointers; b1Inserted.
-/
import Derived.Test.Qxb6612366aWq
import Derived.Test.Qxb6612366aWr
import Derived.LaidEqlPtr
namespace Go.Proofs.Qxb6612366a
open Go.RowKit

theorem push_any (bq base h n J : Nat) (v : Value) (st : ByteArray) (L : List Nat) (T : Nat → Int) (w : World) (P : PushAt w bq base st v h n L T J) (hA : Aged h n L T) (hn : n ≤ 1000000) (hh : h ≤ n) :
    Calls Try.prog 16 #[.pointer (some ⟨bq, 0, none⟩), .pointer (some ⟨J, 0, none⟩)] w fun e w' => e = .returned (.tuple #[]) ∧ ∃ v' r, Where h n L T J r ∧ Pushed w w' bq base st v v' h n L J (h + r) := by
  rcases P.own.2 with ⟨rfl, rfl⟩ | ⟨g, cap, cur, rfl, hb, hg, hle, hm, hs, ht⟩
  · obtain rfl : h = 0 := by omega
    exact push_A bq base J st L T w P
  · by_cases hc : cap = h
    · obtain rfl : n = cap := by omega
      subst hc
      exact push_B bq base n J g st L T w P hn
    · exact push_C bq base h n J g cap st L T w P hA hn hh hc hle (by unfold maxLen at hm; omega)

theorem qpush_any (bq base h n J : Nat) (v : Value) (st : ByteArray) (L : List Nat) (T : Nat → Int) (w : World) (P : PushAt w bq base st v h n L T J) (hA : Aged h n L T) (hn : n ≤ 1000000) (hh : h ≤ n) :
    Calls Try.prog 9 #[.pointer (some ⟨bq, 0, none⟩), .pointer (some ⟨J, 0, none⟩)] w fun e w' => e = .returned (.tuple #[]) ∧ ∃ v' r, Where h n L T J r ∧ Pushed w w' bq base st v v' h n L J (h + r) := by
  have HP : Hid (Calls Try.prog 16 _ w _) := push_any bq base h n J v st L T w P hA hn hh
  clear P hA
  go_enter Try.func9, Try.ntmps9
  go_wp2_with fail
  refine HP.out.mono ?_
  rintro e w1 ⟨rfl, h1⟩
  have H1 : Hid (∃ v' r, Where h n L T J r ∧ Pushed w w1 bq base st v v' h n L J (h + r)) := h1
  clear h1
  go_wp2_with fail
  go_end0
  exact ⟨rfl, H1.out⟩

theorem run_neq_same (b : Nat) (w : World) : (binOp .neq 29 (.pointer (some ⟨b, 0, none⟩)) (.pointer (some ⟨b, 0, none⟩))).run Try.prog w = .ok (.bool false) w := by
  obtain ⟨j, hj⟩ : ∃ j, Try.prog.info? 51 = some j := Option.isSome_iff_exists.1 (by kernel_rfl)
  have h : ∀ d : Nat, (Op.equalIn (d + 1) 29 (.pointer (some ⟨b, 0, none⟩)) (.pointer (some ⟨b, 0, none⟩))).run Try.prog w = .ok true w := fun d => by
    simp [Op.equalIn, run_underlying Try.underlying29, sizeOf, typeInfo, hj, run_sameAddr_same]
  simp only [binOp]
  simp [Op.equal, Op.maxDepth, h 9999]

/-- The list with j put in at p. -/
theorem insAt_get {α : Type} (l : List α) (p : Nat) (x : α) (hp : p ≤ l.length) (i : Nat) : (insAt l p x)[i]? = if i < p then l[i]? else if i = p then some x else l[i - 1]? := by
  unfold insAt
  rw [List.getElem?_append]
  simp only [List.length_take, List.getElem?_take]
  have hm : min p l.length = p := by omega
  rw [hm]
  by_cases h1 : i < p
  · simp [h1]
  · by_cases h2 : i = p
    · subst h2; simp
    · rw [if_neg h1, if_neg h1, if_neg h2, List.getElem?_cons, if_neg (by omega), List.getElem?_drop]
      congr 1
      omega
theorem insAt_length {α : Type} (l : List α) (p : Nat) (x : α) : (insAt l p x).length = l.length + 1 := by
  simp [insAt]; omega

set_option maxHeartbeats 1000000 in
theorem inserted_any (g cap bw n p J : Nat) (f : Nat → Nat) (w : World) (hn : n ≤ 1000000) (hp : p ≤ n) (hw : w.rowIs bw 29 n (fun i => jp (f i)))
    (hg : Hid (∀ i, i ≤ n → w.cell? ⟨g, i, none⟩ = some (if i < p then jp (f i) else if i = p then jp J else jp (f (i - 1))))) :
    Calls Try.prog 12 #[.slice (some ⟨g, 0, none⟩) (n + 1) cap, .slice (some ⟨bw, 0, none⟩) n n, .int .i64 (p : Int), .pointer (some ⟨J, 0, none⟩)] w fun e w' => e = .returned (.bool true) ∧ w' = w := by
  have hneq := run_neq_same
  go_enter Try.func12, Try.ntmps12
  go_wp2
  go_loopw [9, 10] (fun i _ wr => ∃ k : Nat, k ≤ n + 1 ∧ i = .int .i64 (k : Int) ∧ wr = w) (fun i _ _ => n + 1 - (intOf i).toNat)
  case atStart => exact ⟨0, Nat.zero_le _, rfl, rfl⟩
  case round =>
    obtain ⟨k, hk, rfl, rfl⟩ := hrel
    by_cases hlt : k < n + 1
    · have c1 := hg.out k (by omega)
      have k1 : (k : Int) < (n : Int) + 1 := by omega
      by_cases h1 : k < p
      · rw [if_pos h1] at c1
        have c2 := hw.cell (i := k) (by omega)
        have k2 : (k : Int) < (n : Int) := by omega
        have k3 : (k : Int) < (p : Int) := by omega
        unfold jp at c1 c2
        go_wp2
        go_roundw
        case rel => exact ⟨k + 1, by omega, by go_num, trivial⟩
        case measure => simp [intOf]; omega
      · rw [if_neg h1] at c1
        have k3 : ¬ (k : Int) < (p : Int) := by omega
        by_cases h2 : k = p
        · rw [if_pos h2] at c1
          subst h2
          clear h1 k3
          unfold jp at c1
          go_wp2
          go_roundw
          case rel => exact ⟨k + 1, by omega, by go_num, trivial⟩
          case measure => simp [intOf]; omega
        · rw [if_neg h2] at c1
          have k4 : ¬ (k : Int) = (p : Int) := by omega
          have c2 := hw.cell (i := k - 1) (by omega)
          obtain ⟨m, hm⟩ : ∃ m, k = m + 1 := ⟨k - 1, by omega⟩
          subst hm
          rw [show m + 1 - 1 = m from rfl] at c1 c2
          have k2 : (m : Int) < (n : Int) := by omega
          unfold jp at c1 c2
          go_wp2
          go_roundw
          case rel => exact ⟨m + 1 + 1, by omega, by go_num, trivial⟩
          case measure => simp [intOf]; omega
    · have k1 : ¬ (k : Int) < (n : Int) + 1 := by omega
      go_wp2
      go_ret
      exact ⟨rfl, rfl⟩
end Go.Proofs.Qxb6612366a
