/-
  WALKS (x): FnQueuePushPutsJobAfterEveryNoLaterOne: the bound; the ways out ahead of the push; what stands behind it.
-/
import Derived.Test.Qxb6612366aWu
namespace Go.Proofs.Qxb6612366a
open Go.RowKit

theorem bytes3_no1 (a : Option Addr) (n c : Nat) (h x : Int) (st : ByteArray) (w : World) (h1 : (1048576 : Int) < (n : Int)) :
    Calls Try.prog 5 #[.slice a n c, .int .i64 h, .string st, .int .i64 x] w fun e w' => e = .returned (.bool false) ∧ w' = w := by
  go_enter Try.func5, Try.ntmps5
  go_wp2
  go_ret
  exact ⟨rfl, rfl⟩
theorem bytes3_no2 (a : Option Addr) (n c : Nat) (h x : Int) (st : ByteArray) (w : World) (h1 : ¬ (1048576 : Int) < (n : Int)) (h2 : (1048576 : Int) < (st.size : Int)) :
    Calls Try.prog 5 #[.slice a n c, .int .i64 h, .string st, .int .i64 x] w fun e w' => e = .returned (.bool false) ∧ w' = w := by
  go_enter Try.func5, Try.ntmps5
  go_wp2
  go_ret
  exact ⟨rfl, rfl⟩
theorem bytes3_no3 (a : Option Addr) (n c : Nat) (h x : Int) (st : ByteArray) (w : World) (h1 : ¬ (1048576 : Int) < (n : Int)) (h2 : ¬ (1048576 : Int) < (st.size : Int)) (h3 : (1048576 : Int) < (n : Int) + (st.size : Int)) :
    Calls Try.prog 5 #[.slice a n c, .int .i64 h, .string st, .int .i64 x] w fun e w' => e = .returned (.bool false) ∧ w' = w := by
  go_enter Try.func5, Try.ntmps5
  go_wp2
  go_ret
  exact ⟨rfl, rfl⟩
theorem bytes3_yes (a : Option Addr) (n c : Nat) (h x : Int) (st : ByteArray) (w : World) (h1 : ¬ (1048576 : Int) < (n : Int)) (h2 : ¬ (1048576 : Int) < (st.size : Int)) (h3 : ¬ (1048576 : Int) < (n : Int) + (st.size : Int)) :
    Calls Try.prog 5 #[.slice a n c, .int .i64 h, .string st, .int .i64 x] w fun e w' => e = .returned (.bool true) ∧ w' = w := by
  go_enter Try.func5, Try.ntmps5
  go_wp2
  go_ret
  exact ⟨rfl, rfl⟩
theorem bytes3_any (a : Option Addr) (n c : Nat) (h x : Int) (st : ByteArray) (w : World) :
    (Calls Try.prog 5 #[.slice a n c, .int .i64 h, .string st, .int .i64 x] w fun e w' => e = .returned (.bool false) ∧ w' = w) ∨ (Calls Try.prog 5 #[.slice a n c, .int .i64 h, .string st, .int .i64 x] w fun e w' => e = .returned (.bool true) ∧ w' = w) := by
  by_cases h1 : (1048576 : Int) < (n : Int)
  · exact .inl (bytes3_no1 a n c h x st w h1)
  · by_cases h2 : (1048576 : Int) < (st.size : Int)
    · exact .inl (bytes3_no2 a n c h x st w h1 h2)
    · by_cases h3 : (1048576 : Int) < (n : Int) + (st.size : Int)
      · exact .inl (bytes3_no3 a n c h x st w h1 h2 h3)
      · exact .inr (bytes3_yes a n c h x st w h1 h2 h3)

set_option maxRecDepth 100000 in
theorem out_no (a : Option Addr) (n c : Nat) (h x : Int) (st : ByteArray) (w : World) (hb : Hid (Calls Try.prog 5 #[.slice a n c, .int .i64 h, .string st, .int .i64 x] w fun e w' => e = .returned (.bool false) ∧ w' = w)) :
    Calls Try.prog 3 #[.slice a n c, .int .i64 h, .string st, .int .i64 x] w fun e w' => e = .returned (.bool true) ∧ Below w.heap.size w w' := by
  go_enter Try.func3, Try.ntmps3
  go_wp2_with fail
  refine hb.out.mono ?_
  rintro e w0 ⟨rfl, hw0⟩
  rw [hw0]
  clear hw0 w0
  go_wp2
  go_ret
  exact ⟨rfl, Below.refl _ _⟩
set_option maxRecDepth 100000 in
theorem out_long1 (a : Option Addr) (n c : Nat) (h x : Int) (st : ByteArray) (w : World) (hb : Hid (Calls Try.prog 5 #[.slice a n c, .int .i64 h, .string st, .int .i64 x] w fun e w' => e = .returned (.bool true) ∧ w' = w)) (h1 : (65536 : Int) < (n : Int)) :
    Calls Try.prog 3 #[.slice a n c, .int .i64 h, .string st, .int .i64 x] w fun e w' => e = .returned (.bool true) ∧ Below w.heap.size w w' := by
  have hd : decide ((65536 : Int) < (n : Int)) = true := decide_eq_true h1
  go_enter Try.func3, Try.ntmps3
  go_wp2_with fail
  refine hb.out.mono ?_
  rintro e w0 ⟨rfl, hw0⟩
  rw [hw0]
  clear hw0 w0
  go_wp2
  go_ret
  exact ⟨rfl, Below.refl _ _⟩
set_option maxRecDepth 100000 in
theorem out_long2 (a : Option Addr) (n c : Nat) (h x : Int) (st : ByteArray) (w : World) (hb : Hid (Calls Try.prog 5 #[.slice a n c, .int .i64 h, .string st, .int .i64 x] w fun e w' => e = .returned (.bool true) ∧ w' = w)) (h1 : ¬ (65536 : Int) < (n : Int)) (h2 : (524288 : Int) < (st.size : Int)) :
    Calls Try.prog 3 #[.slice a n c, .int .i64 h, .string st, .int .i64 x] w fun e w' => e = .returned (.bool true) ∧ Below w.heap.size w w' := by
  have hd : decide ((65536 : Int) < (n : Int)) = false := decide_eq_false h1
  go_enter Try.func3, Try.ntmps3
  go_wp2_with fail
  refine hb.out.mono ?_
  rintro e w0 ⟨rfl, hw0⟩
  rw [hw0]
  clear hw0 w0
  go_wp2
  go_ret
  exact ⟨rfl, Below.refl _ _⟩
set_option maxRecDepth 100000 in
theorem out_neg (a : Option Addr) (n c : Nat) (h x : Int) (st : ByteArray) (w : World) (hb : Hid (Calls Try.prog 5 #[.slice a n c, .int .i64 h, .string st, .int .i64 x] w fun e w' => e = .returned (.bool true) ∧ w' = w)) (h1 : ¬ (65536 : Int) < (n : Int)) (h2 : ¬ (524288 : Int) < (st.size : Int)) (h3 : h < 0) :
    Calls Try.prog 3 #[.slice a n c, .int .i64 h, .string st, .int .i64 x] w fun e w' => e = .returned (.bool true) ∧ Below w.heap.size w w' := by
  have hd : decide ((65536 : Int) < (n : Int)) = false := decide_eq_false h1
  have hd3 : decide (h < 0) = true := decide_eq_true h3
  go_enter Try.func3, Try.ntmps3
  go_wp2_with fail
  refine hb.out.mono ?_
  rintro e w0 ⟨rfl, hw0⟩
  rw [hw0]
  clear hw0 w0
  go_wp2
  go_ret
  exact ⟨rfl, Below.refl _ _⟩
set_option maxRecDepth 100000 in
theorem out_past (a : Option Addr) (n c : Nat) (h x : Int) (st : ByteArray) (w : World) (hb : Hid (Calls Try.prog 5 #[.slice a n c, .int .i64 h, .string st, .int .i64 x] w fun e w' => e = .returned (.bool true) ∧ w' = w)) (h1 : ¬ (65536 : Int) < (n : Int)) (h2 : ¬ (524288 : Int) < (st.size : Int)) (h3 : ¬ h < 0) (h4 : (n : Int) < h) :
    Calls Try.prog 3 #[.slice a n c, .int .i64 h, .string st, .int .i64 x] w fun e w' => e = .returned (.bool true) ∧ Below w.heap.size w w' := by
  have hd : decide ((65536 : Int) < (n : Int)) = false := decide_eq_false h1
  have hd3 : decide (h < 0) = false := decide_eq_false h3
  go_enter Try.func3, Try.ntmps3
  go_wp2_with fail
  refine hb.out.mono ?_
  rintro e w0 ⟨rfl, hw0⟩
  rw [hw0]
  clear hw0 w0
  go_wp2
  go_ret
  exact ⟨rfl, Below.refl _ _⟩
end Go.Proofs.Qxb6612366a
