/-
  THE WALKS: each Go function on the road computes a plain function (Qxb6612721aPlain.lean).
-/
import Derived.Test.Qxb6612721aRows
import Derived.Test.Qxb6612721aPlain
import Derived.WalkKit
import Derived.WalkSpells
namespace Go.Proofs.Qxb6612721a
open Go.RowKit

theorem dg_isDigit (u : UInt8) (w : World) :
    Calls Try.prog 18 #[.int .u8 (u.toNat : Int)] w fun e w' => e = .returned (.bool (dg u)) ∧ w' = w := by
  by_cases h1 : 48 ≤ (u.toNat : Int)
  · by_cases h2 : (u.toNat : Int) ≤ 57
    · have HD : Hid (dg u = true) := by show dg u = true; simp [dg]; omega
      go_enter Try.func18, Try.ntmps18
      go_wp2
      go_ret
      exact ⟨by rw [HD.out]; rfl, rfl⟩
    · have HD : Hid (dg u = false) := by show dg u = false; simp [dg]; omega
      go_enter Try.func18, Try.ntmps18
      go_wp2
      go_ret
      exact ⟨by rw [HD.out]; rfl, rfl⟩
  · have HD : Hid (dg u = false) := by show dg u = false; simp [dg]; omega
    go_enter Try.func18, Try.ntmps18
    go_wp2
    go_ret
    exact ⟨by rw [HD.out]; rfl, rfl⟩

theorem dg_swDigit (u : UInt8) (w : World) :
    Calls Try.prog 17 #[.int .u8 (u.toNat : Int)] w fun e w' => e = .returned (.bool (dg u)) ∧ w' = w := by
  by_cases h1 : 48 ≤ (u.toNat : Int)
  · by_cases h2 : (u.toNat : Int) ≤ 57
    · have HD : Hid (dg u = true) := by show dg u = true; simp [dg]; omega
      go_enter Try.func17, Try.ntmps17
      go_wp2
      go_ret
      exact ⟨by rw [HD.out]; rfl, rfl⟩
    · have HD : Hid (dg u = false) := by show dg u = false; simp [dg]; omega
      go_enter Try.func17, Try.ntmps17
      go_wp2
      go_ret
      exact ⟨by rw [HD.out]; rfl, rfl⟩
  · have HD : Hid (dg u = false) := by show dg u = false; simp [dg]; omega
    go_enter Try.func17, Try.ntmps17
    go_wp2
    go_ret
    exact ⟨by rw [HD.out]; rfl, rfl⟩

theorem ret_int {k : IntKind} {a b : Int} (h : a = b) : Ending.returned (.int k a) = .returned (.int k b) := by rw [h]

set_option maxHeartbeats 400000 in
theorem skipWhile_any (s : ByteArray) (i : Nat) (w : World) (hs : s.size ≤ maxLen) :
    Calls Try.prog 14 #[.string s, .int .i64 (i : Int), .func (.func 18) #[] #[]] w fun e w' => e = .returned (.int .i64 (skipB s i : Int)) ∧ w' = w := by
  unfold maxLen at hs
  go_enter Try.func14, Try.ntmps14
  go_wp2
  go_loop [1] (fun t => ∃ k : Nat, (k ≤ s.size ∨ k = i) ∧ t = .int .i64 k ∧ Hid (skipB s k = skipB s i)) (fun t => s.size - (intOf t).toNat)
  case atStart => exact ⟨i, .inr rfl, rfl, rfl⟩
  case round =>
    obtain ⟨k, hk, rfl, HK⟩ := hrel
    by_cases hlt : k < s.size
    · cases hd : dg s[k]
      · have HE : Hid (skipB s k = k) := skipB_miss s k hlt hd
        go_wp2_with (go_at_call 18; refine (dg_isDigit _ _).mono ?_; rintro e w' ⟨rfl, rfl⟩)
        go_ret
        exact ⟨ret_int (by rw [← HK.out, HE.out]), rfl⟩
      · have HE : Hid (skipB s k = skipB s (k + 1)) := skipB_hit s k hlt hd
        go_wp2_with (go_at_call 18; refine (dg_isDigit _ _).mono ?_; rintro e w' ⟨rfl, rfl⟩)
        go_round
        case rel => exact ⟨k + 1, .inl (by omega), by go_num, HE.out.symm.trans HK.out⟩
        case measure => simp [intOf]; omega
    · go_wp2_with fail
      go_ret
      exact ⟨ret_int (by rw [← HK.out, skipB_end s k (by omega)]), rfl⟩

theorem skipDigits_any (s : ByteArray) (i : Nat) (w : World) (hs : s.size ≤ maxLen) :
    Calls Try.prog 16 #[.string s, .int .i64 (i : Int)] w fun e w' => e = .returned (.int .i64 (skipB s i : Int)) ∧ w' = w := by
  go_enter Try.func16, Try.ntmps16
  go_wp2_with (go_at_call 14; refine (skipWhile_any s i _ hs).mono ?_; rintro e w' ⟨rfl, rfl⟩)
  go_ret
  exact ⟨rfl, rfl⟩

theorem zzSkip_any (s : ByteArray) (i : Nat) (w : World) (hs : s.size ≤ maxLen) :
    Calls Try.prog 10 #[.string s, .int .i64 (i : Int)] w fun e w' => e = .returned (.int .i64 (skipB s i : Int)) ∧ w' = w := by
  go_enter Try.func10, Try.ntmps10
  go_wp2_with (go_at_call 16; refine (skipDigits_any s i _ hs).mono ?_; rintro e w' ⟨rfl, rfl⟩)
  go_ret
  exact ⟨rfl, rfl⟩

/-- swDigitRunEnds says yes at the end of the run. -/
theorem runEnds_end (s : ByteArray) (i : Nat) (w : World) (hi : s.size ≤ i) :
    Calls Try.prog 11 #[.string s, .int .i64 (i : Int), .int .i64 (i : Int)] w fun e w' => e = .returned (.bool true) ∧ w' = w := by
  go_enter Try.func11, Try.ntmps11
  go_wp2
  go_ret
  exact ⟨rfl, rfl⟩

set_option maxHeartbeats 400000 in
theorem runEnds_in (s : ByteArray) (i r : Nat) (w : World) (hs : s.size ≤ maxLen) (hi : i < s.size) (h1 : i ≤ r) (h2 : r ≤ s.size)
    (hb : Hid (∀ t (h : t < s.size), i ≤ t → t < r → dg s[t] = true)) (he : Hid (∀ h : r < s.size, dg s[r] = false)) :
    Calls Try.prog 11 #[.string s, .int .i64 (i : Int), .int .i64 (r : Int)] w fun e w' => e = .returned (.bool true) ∧ w' = w := by
  unfold maxLen at hs
  have d1 : decide ((r : Int) < (i : Int)) = false := decide_eq_false (by omega)
  have e1 : ¬ (r : Int) < (i : Int) := by omega
  have e2 : ¬ (s.size : Int) < (r : Int) := by omega
  have d2 : decide ((s.size : Int) < (r : Int)) = false := decide_eq_false (by omega)
  go_enter Try.func11, Try.ntmps11
  go_wp2
  go_loop [7] (fun t => ∃ k : Nat, i ≤ k ∧ k ≤ r ∧ t = .int .i64 k) (fun t => r - (intOf t).toNat)
  case atStart => exact ⟨i, Nat.le_refl _, h1, rfl⟩
  case round =>
    obtain ⟨k, hk1, hk2, rfl⟩ := hrel
    by_cases hlt : k < r
    · have hks : k < s.size := by omega
      have hd := hb.out k hks hk1 hlt
      go_wp2_with (go_at_call 17; refine (dg_swDigit _ _).mono ?_; rintro e w' ⟨rfl, rfl⟩)
      go_round
      case rel => exact ⟨k + 1, by omega, by omega, by go_num⟩
      case measure => simp [intOf]; omega
    · by_cases hrs : r < s.size
      · have hd := he.out hrs
        have hne : ((r : Int) == (s.size : Int)) = false := by simp; omega
        go_wp2_with (go_at_call 17; refine (dg_swDigit _ _).mono ?_; rintro e w' ⟨rfl, rfl⟩)
        go_ret
        exact ⟨rfl, rfl⟩
      · have hne : ((r : Int) == (s.size : Int)) = true := by simp; omega
        go_wp2_with fail
        go_ret
        exact ⟨rfl, rfl⟩

theorem runEnds_any (s : ByteArray) (i : Nat) (w : World) (hs : s.size ≤ maxLen) :
    Calls Try.prog 11 #[.string s, .int .i64 (i : Int), .int .i64 (skipB s i : Int)] w fun e w' => e = .returned (.bool true) ∧ w' = w := by
  by_cases hi : s.size ≤ i
  · rw [skipB_end s i hi]; exact runEnds_end s i w hi
  · exact runEnds_in s i _ w hs (by omega) (skipB_ge s i) (skipB_le s i (by omega)) (fun t h h1 h2 => skipB_between s i t h1 h2 h) (fun h => skipB_stop s i _ rfl h)

/-- zzBytes: the lengths' sum is at most 1<<20. -/
theorem bytes_yes (a b : ByteArray) (i : Int) (w : World) (h : a.size + b.size ≤ 1048576) :
    Calls Try.prog 9 #[.string a, .string b, .int .i64 i] w fun e w' => e = .returned (.bool true) ∧ w' = w := by
  go_enter Try.func9, Try.ntmps9
  go_wp2
  go_ret
  exact ⟨rfl, rfl⟩
theorem bytes_no (a b : ByteArray) (i : Int) (w : World) (ha : a.size ≤ maxLen) (hb : b.size ≤ maxLen) (h : ¬ a.size + b.size ≤ 1048576) :
    Calls Try.prog 9 #[.string a, .string b, .int .i64 i] w fun e w' => e = .returned (.bool false) ∧ w' = w := by
  unfold maxLen at ha hb
  by_cases h1 : a.size ≤ 1048576
  · by_cases h2 : b.size ≤ 1048576
    all_goals
      go_enter Try.func9, Try.ntmps9
      go_wp2
      go_ret
      exact ⟨rfl, rfl⟩
  · go_enter Try.func9, Try.ntmps9
    go_wp2
    go_ret
    exact ⟨rfl, rfl⟩
end Go.Proofs.Qxb6612721a
