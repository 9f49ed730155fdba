/-
  WALKS (t): package time: nsec, addSec, Add at the zero time, ZZb1TimeAt.
-/
import Derived.Test.Qxb6612366aRows
import Derived.WalkKit
import Derived.WalkSpells
import Derived.Test.Qxb6612366aBits
namespace Go.Proofs.Qxb6612366a
open Go.RowKit

/-- A time that lies ns nanoseconds behind the zero time: its three cells. -/

theorem nsec_any (b o : Nat) (x : Int) (w : World) (h : w.cell? ⟨b, o, none⟩ = some (.int .u64 x)) (h0 : 0 ≤ x) (h1 : x < 1000000000) :
    Calls Try.prog 18 #[.pointer (some ⟨b, o, none⟩)] w fun e w' => e = .returned (.int .i32 x) ∧ w' = w := by
  have hm := and_mask x h0 h1
  go_enter Try.func18, Try.ntmps18
  go_wp2
  go_ret
  exact ⟨rfl, rfl⟩
theorem sec_any (b o : Nat) (x y : Int) (w : World) (h : w.cell? ⟨b, o, none⟩ = some (.int .u64 x)) (h0 : 0 ≤ x) (h1 : x < 1000000000) (hy : w.cell? ⟨b, o + 1, none⟩ = some (.int .i64 y)) :
    Calls Try.prog 23 #[.pointer (some ⟨b, o, none⟩)] w fun e w' => e = .returned (.int .i64 y) ∧ w' = w := by
  have hs := and_top x h0 h1
  go_enter Try.func23, Try.ntmps23
  go_wp2
  go_ret
  exact ⟨rfl, rfl⟩
/-- addSec at a time without a monotonic reading whose seconds are nought. -/
theorem addSec_any (b : Nat) (x d : Int) (w : World) (h : w.cell? ⟨b, 0, none⟩ = some (.int .u64 x)) (h0 : 0 ≤ x) (h1 : x < 1000000000) (hy : w.cell? ⟨b, 1, none⟩ = some (.int .i64 0)) (hf : w.frozen? ⟨b, 1, none⟩ = false)
    (hd0 : -9223372036854775808 ≤ d) (hd1 : d ≤ 9223372036854775807) :
    Calls Try.prog 19 #[.pointer (some ⟨b, 0, none⟩), .int .i64 d] w fun e w' => e = .returned (.tuple #[]) ∧ w' = w.setCell ⟨b, 1, none⟩ (.int .i64 d) := by
  have hs := and_top x h0 h1
  go_enter Try.func19, Try.ntmps19
  go_wp2
  go_end0
  exact ⟨rfl, rfl⟩

set_option maxHeartbeats 1000000 in
theorem add_pos (x : Int) (w : World) (hx : 0 ≤ x) (hx1 : x ≤ 9223372036854775807) :
    Calls Try.prog 15 #[.agg #[.int .u64 0, .int .i64 0, .pointer none], .int .i64 x] w fun e w' => e = .returned (.agg #[.int .u64 (x % 1000000000), .int .i64 (x / 1000000000), .pointer none]) ∧ w' = (w.alloc (.cells #[.int .u64 (x % 1000000000), .int .i64 (x / 1000000000), .pointer none] 34)).alloc (.cells #[.int .u64 (x % 1000000000), .int .i64 (x / 1000000000), .pointer none] 34) := by
  obtain ⟨Q, hq⟩ : ∃ q, x / 1000000000 = q := ⟨_, rfl⟩
  obtain ⟨R, hr⟩ : ∃ r, x % 1000000000 = r := ⟨_, rfl⟩
  have r0 : 0 ≤ R := by omega
  have r1 : R < 1000000000 := by omega
  have q0 : 0 ≤ Q := by omega
  have q1 : Q ≤ 9223372036 := by omega
  rw [hq, hr]
  have ho := or_zero (R) r0 r1
  have ht := and_top (R) r0 r1
  have hn := andNot_zero
  go_enter Try.func15, Try.ntmps15
  go_wp2_with fail
  refine (nsec_any _ _ 0 _ (by simp) (by omega) (by omega)).mono ?_
  rintro e w1 ⟨rfl, hw1⟩
  rw [hw1]
  clear hw1 w1
  go_wp2_with fail
  refine (addSec_any _ (R) (Q) _ (by simp [World.cell?_alloc_past]) r0 r1 (by simp [World.cell?_alloc_past]) (by simp [World.frozen?_alloc_past]) (by omega) (by omega)).mono ?_
  rintro e w1 ⟨rfl, hw1⟩
  rw [hw1]
  clear hw1 w1
  go_wp2_with fail
  exact bodyPost_ret (v := .agg #[.int .u64 (R), .int .i64 (Q), .pointer none]) (by simp [results, Try.results15, go_sem]) rfl ⟨rfl, rfl⟩

set_option maxHeartbeats 1000000 in
theorem add_neg0 (x q : Int) (w : World) (hx : x < 0) (hx1 : -9223372036854775808 ≤ x) (hq : x.tdiv 1000000000 = q) (hr : x.tmod 1000000000 = 0) (he : q * 1000000000 = x) :
    Calls Try.prog 15 #[.agg #[.int .u64 0, .int .i64 0, .pointer none], .int .i64 x] w fun e w' => e = .returned (.agg #[.int .u64 (x % 1000000000), .int .i64 (x / 1000000000), .pointer none]) ∧ w' = (w.alloc (.cells #[.int .u64 (x % 1000000000), .int .i64 (x / 1000000000), .pointer none] 34)).alloc (.cells #[.int .u64 (x % 1000000000), .int .i64 (x / 1000000000), .pointer none] 34) := by
  rw [show x % 1000000000 = 0 by omega, show x / 1000000000 = q by omega]
  have r0 : (0 : Int) ≤ 0 := by omega
  have r1 : (0 : Int) < 1000000000 := by omega
  have q0 : q ≤ 0 := by omega
  have q1 : -9223372037 ≤ q := by omega
  clear he
  have ho := or_zero (0) r0 r1
  have ht := and_top (0) r0 r1
  have hn := andNot_zero
  go_enter Try.func15, Try.ntmps15
  go_wp2_with fail
  refine (nsec_any _ _ 0 _ (by simp) (by omega) (by omega)).mono ?_
  rintro e w1 ⟨rfl, hw1⟩
  rw [hw1]
  clear hw1 w1
  go_wp2_with fail
  refine (addSec_any _ (0) (q) _ (by simp [World.cell?_alloc_past]) r0 r1 (by simp [World.cell?_alloc_past]) (by simp [World.frozen?_alloc_past]) (by omega) (by omega)).mono ?_
  rintro e w1 ⟨rfl, hw1⟩
  rw [hw1]
  clear hw1 w1
  go_wp2_with fail
  exact bodyPost_ret (v := .agg #[.int .u64 (0), .int .i64 (q), .pointer none]) (by simp [results, Try.results15, go_sem]) rfl ⟨rfl, rfl⟩

set_option maxHeartbeats 1000000 in
theorem add_neg1 (x q r : Int) (w : World) (hx : x < 0) (hx1 : -9223372036854775808 ≤ x) (hq : x.tdiv 1000000000 = q) (hr : x.tmod 1000000000 = r) (he : q * 1000000000 + r = x) (hr0 : r < 0) (hr1 : -1000000000 < r) :
    Calls Try.prog 15 #[.agg #[.int .u64 0, .int .i64 0, .pointer none], .int .i64 x] w fun e w' => e = .returned (.agg #[.int .u64 (x % 1000000000), .int .i64 (x / 1000000000), .pointer none]) ∧ w' = (w.alloc (.cells #[.int .u64 (x % 1000000000), .int .i64 (x / 1000000000), .pointer none] 34)).alloc (.cells #[.int .u64 (x % 1000000000), .int .i64 (x / 1000000000), .pointer none] 34) := by
  rw [show x % 1000000000 = r + 1000000000 by omega, show x / 1000000000 = q - 1 by omega]
  have r0 : (0 : Int) ≤ r + 1000000000 := by omega
  have r1 : r + 1000000000 < 1000000000 := by omega
  have q0 : q ≤ 0 := by omega
  have q1 : -9223372037 ≤ q := by omega
  clear he
  have ho := or_zero (r + 1000000000) r0 r1
  have ht := and_top (r + 1000000000) r0 r1
  have hn := andNot_zero
  go_enter Try.func15, Try.ntmps15
  go_wp2_with fail
  refine (nsec_any _ _ 0 _ (by simp) (by omega) (by omega)).mono ?_
  rintro e w1 ⟨rfl, hw1⟩
  rw [hw1]
  clear hw1 w1
  go_wp2_with fail
  refine (addSec_any _ (r + 1000000000) (q - 1) _ (by simp [World.cell?_alloc_past]) r0 r1 (by simp [World.cell?_alloc_past]) (by simp [World.frozen?_alloc_past]) (by omega) (by omega)).mono ?_
  rintro e w1 ⟨rfl, hw1⟩
  rw [hw1]
  clear hw1 w1
  go_wp2_with fail
  exact bodyPost_ret (v := .agg #[.int .u64 (r + 1000000000), .int .i64 (q - 1), .pointer none]) (by simp [results, Try.results15, go_sem]) rfl ⟨rfl, rfl⟩

theorem add_any (x : Int) (w : World) (hx0 : -9223372036854775808 ≤ x) (hx1 : x ≤ 9223372036854775807) :
    Calls Try.prog 15 #[.agg #[.int .u64 0, .int .i64 0, .pointer none], .int .i64 x] w fun e w' => e = .returned (.agg #[.int .u64 (x % 1000000000), .int .i64 (x / 1000000000), .pointer none]) ∧ w' = (w.alloc (.cells #[.int .u64 (x % 1000000000), .int .i64 (x / 1000000000), .pointer none] 34)).alloc (.cells #[.int .u64 (x % 1000000000), .int .i64 (x / 1000000000), .pointer none] 34) := by
  by_cases hx : 0 ≤ x
  · exact add_pos x w hx hx1
  · obtain ⟨q, r, hq, hr, he, h1, h2⟩ := tdiv_neg x (by omega)
    by_cases h0 : r = 0
    · subst h0
      exact add_neg0 x q w (by omega) hx0 hq hr (by omega)
    · exact add_neg1 x q r w (by omega) hx0 hq hr he (by omega) h1

/-- ZZb1TimeAt. -/
theorem timeAt_any (x : Int) (w : World) (hx0 : -9223372036854775808 ≤ x) (hx1 : x ≤ 9223372036854775807) :
    Calls Try.prog 8 #[.int .i64 x] w fun e w' => e = .returned (.agg #[.int .u64 (x % 1000000000), .int .i64 (x / 1000000000), .pointer none]) ∧ ∃ o1 o2 o3 : Obj, w' = ((w.alloc o1).alloc o2).alloc o3 := by
  have C := fun w => add_any x w hx0 hx1
  obtain ⟨R, hr⟩ : ∃ r, x % 1000000000 = r := ⟨_, rfl⟩
  obtain ⟨Q, hq⟩ : ∃ q, x / 1000000000 = q := ⟨_, rfl⟩
  rw [hr, hq] at C ⊢
  have HC : Hid (∀ w, Calls _ _ _ w _) := C
  clear C hr hq
  go_enter Try.func8, Try.ntmps8
  go_wp2_with fail
  refine (HC.out _).mono ?_
  rintro e w1 ⟨rfl, hw1⟩
  rw [hw1]
  clear hw1
  go_wp2_with fail
  exact bodyPost_ret (v := .agg #[.int .u64 R, .int .i64 Q, .pointer none]) (by simp [results, Try.results8, go_sem, World.cell?_alloc_past]) rfl ⟨rfl, _, _, _, rfl⟩

/-! ### After -/
set_option maxHeartbeats 1000000 in
theorem after_any (x y : Int) (w : World) :
    Calls Try.prog 28 #[.agg #[.int .u64 (x % 1000000000), .int .i64 (x / 1000000000), .pointer none], .agg #[.int .u64 (y % 1000000000), .int .i64 (y / 1000000000), .pointer none]] w
      fun e w' => e = .returned (.bool (decide (y < x))) ∧ ∃ o1 o2 : Obj, w' = (w.alloc o1).alloc o2 := by
  obtain ⟨R, hr⟩ : ∃ r, x % 1000000000 = r := ⟨_, rfl⟩
  obtain ⟨Q, hq⟩ : ∃ q, x / 1000000000 = q := ⟨_, rfl⟩
  obtain ⟨S, hs⟩ : ∃ r, y % 1000000000 = r := ⟨_, rfl⟩
  obtain ⟨T, ht⟩ : ∃ q, y / 1000000000 = q := ⟨_, rfl⟩
  have r0 : 0 ≤ R := by omega
  have r1 : R < 1000000000 := by omega
  have s0 : 0 ≤ S := by omega
  have s1 : S < 1000000000 := by omega
  have ha := and_small R S r0 r1 s0 s1
  obtain ⟨A, hA⟩ : ∃ a, bits .and .u64 R S = a := ⟨_, rfl⟩
  rw [hA] at ha
  have hb := and_top A ha.1 ha.2
  have hcmp : decide (y < x) = (decide (T < Q) || (decide (Q = T) && decide (S < R))) := by
    by_cases h1 : T < Q
    · simp [h1]; omega
    · by_cases h2 : Q = T
      · by_cases h3 : S < R <;> simp [h2, h3] <;> omega
      · simp [h1, h2]; omega
  rw [hr, hq, hs, ht, hcmp]
  clear hr hq hs ht hcmp
  rcases Int.lt_trichotomy T Q with h | h | h
  · have g1 : decide (T < Q) = true := by simpa using h
    have HG : Hid ((decide (T < Q) || (decide (Q = T) && decide (S < R))) = true) := by show _ = true; simp [h]
    go_enter Try.func28, Try.ntmps28
    go_wp2_with fail
    refine (sec_any _ 0 R Q _ (by simp [World.cell?_alloc_past]) r0 r1 (by simp [World.cell?_alloc_past])).mono ?_
    rintro e w1 ⟨rfl, hw1⟩
    rw [hw1]
    clear hw1 w1
    go_wp2_with fail
    refine (sec_any _ 0 S T _ (by simp) s0 s1 (by simp)).mono ?_
    rintro e w1 ⟨rfl, hw1⟩
    rw [hw1]
    clear hw1 w1
    go_wp2_with fail
    go_ret
    exact ⟨by rw [HG.out]; rfl, _, _, rfl⟩
  · subst h
    have g1 : decide (T < T) = false := by simp
    have g2 : ¬ (T < T) := by omega
    have HG : Hid ((decide (T < T) || (decide (T = T) && decide (S < R))) = decide (S < R)) := by show _ = _; simp
    go_enter Try.func28, Try.ntmps28
    go_wp2_with fail
    refine (sec_any _ 0 R T _ (by simp [World.cell?_alloc_past]) r0 r1 (by simp [World.cell?_alloc_past])).mono ?_
    rintro e w1 ⟨rfl, hw1⟩
    rw [hw1]
    clear hw1 w1
    go_wp2_with fail
    refine (sec_any _ 0 S T _ (by simp) s0 s1 (by simp)).mono ?_
    rintro e w1 ⟨rfl, hw1⟩
    rw [hw1]
    clear hw1 w1
    go_wp2_with fail
    refine (nsec_any _ 0 R _ (by simp [World.cell?_alloc_past]) r0 r1).mono ?_
    rintro e w1 ⟨rfl, hw1⟩
    rw [hw1]
    clear hw1 w1
    go_wp2_with fail
    refine (nsec_any _ 0 S _ (by simp) s0 s1).mono ?_
    rintro e w1 ⟨rfl, hw1⟩
    rw [hw1]
    clear hw1 w1
    go_wp2_with fail
    go_ret
    exact ⟨by rw [HG.out]; rfl, _, _, rfl⟩
  · have g1 : decide (T < Q) = false := by simpa using (by omega : Q ≤ T)
    have g2 : ¬ (T < Q) := by omega
    have g3 : ¬ (Q = T) := by omega
    have HG : Hid ((decide (T < Q) || (decide (Q = T) && decide (S < R))) = false) := by show _ = _; simp [g2, g3]
    go_enter Try.func28, Try.ntmps28
    go_wp2_with fail
    refine (sec_any _ 0 R Q _ (by simp [World.cell?_alloc_past]) r0 r1 (by simp [World.cell?_alloc_past])).mono ?_
    rintro e w1 ⟨rfl, hw1⟩
    rw [hw1]
    clear hw1 w1
    go_wp2_with fail
    refine (sec_any _ 0 S T _ (by simp) s0 s1 (by simp)).mono ?_
    rintro e w1 ⟨rfl, hw1⟩
    rw [hw1]
    clear hw1 w1
    go_wp2_with fail
    go_ret
    exact ⟨by rw [HG.out]; rfl, _, _, rfl⟩
end Go.Proofs.Qxb6612366a
